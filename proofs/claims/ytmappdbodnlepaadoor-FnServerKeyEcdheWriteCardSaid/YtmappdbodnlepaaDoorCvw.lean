/- Walks: a certificate's proof, written. -/
import Derived.Test.YtmappdbodnlepaaDoorAlgU
import Derived.Test.YtmappdbodnlepaaDoorPairs3
import Derived.Test.YtmappdbodnlepaaDoorU16
import Derived.Deep.RegionHeldLaw
import Derived.StillTailTactics
namespace Go.Proofs.YtmappdbodnlepaaDoor
open Go.RowKit Go.Cv
set_option maxRecDepth 100000
set_option linter.unusedVariables false
theorem cvMsgInfo : (Tryd.prog.info? 45).map (·.size) = some 25 := by kernel_rfl
def cvMsg (h s : Nat) (l : List UInt8) : Array Value := #[.int .u8 15, .bool false, .int .u8 0, .int .u8 0, .int .u32 0, .string (S []), .string (S []), .string (S []), .slice none 0 0, .slice none 0 0, .slice none 0 0, .slice none 0 0, .slice none 0 0, .slice none 0 0, .int .u16 (h : Int), .int .u16 (s : Int), .string (S l), .string (S []), .string (S []), .int .i64 0, .int .u8 0, .int .u16 0, .string (S []), .string (S []), .slice none 0 0]
theorem makeCv_any (h s : Nat) (l : List UInt8) (hl : l.length ≤ maxLen) (cs : Array Value) (h14 : cs[14]? = some (.int .u16 (h : Int))) (h15 : cs[15]? = some (.int .u16 (s : Int))) (h16 : cs[16]? = some (.string (S l))) (w : World) :
    Calls Tryd.prog 34 #[.agg cs] w fun e w' =>
      ∃ b ra c, e = .returned (.pointer (some ⟨b, 0, none⟩)) ∧ Blk w' b 122 #[.int .u16 (h : Int), .int .u16 (s : Int), .slice (some ⟨ra, 0, none⟩) l.length c] ∧ Rd w' (some ⟨ra, 0, none⟩) (vs l) ∧ Below w.heap.size w w' := by
  have HL := Lib.hid hl
  clear hl
  go_enter Tryd.func34, Tryd.ntmps34
  go_wp2_with fail
  refine upon_conv_sb 9 39 5 Tryd.underlying9 Tryd.underlying39 Tryd.underlying5 l HL.out ?_
  intro c w1 hown hb hlt
  have hr := hown.rd
  simp only [World.size_alloc] at hr
  clear hown
  go_wp2_with fail
  go_ret
  exact ⟨_, _, c, rfl, Blk.new _ _ _, hr.keep (below_alloc _ _), below_two (below_two (below_alloc _ _) hb) (below_alloc _ _)⟩
theorem or_code (h s : Nat) (h8 : h ≤ 8) (s7 : s ≤ 7) : bits BinOp.or IntKind.u16 ((h : Int) * 256) (s : Int) = ((h * 256 + s : Nat) : Int) := by
  have e : ((h : Int) * 256) = ((h * 256 : Nat) : Int) := by omega
  rw [e, u16_or_nat (h * 256) s (by omega) (by omega), Nat.or_comm, or_mul256 s h (by omega)]
theorem code_plain (h s : Nat) (hs : s ≤ 7) : code h s = h * 256 + s := by unfold code; rw [if_neg (by omega)]
theorem cv_out (h s n : Nat) (l : List UInt8) (h8 : h ≤ 8) (s7 : s ≤ 7) (hn : n < 65536) : [Value.int .u8 ((h : Int)), .int .u8 (s : Int), .int .u8 ((n : Int) / 256 % 256), .int .u8 ((n : Int) % 256)] ++ vs l = vs (be 2 (h * 256 + s) ++ (be 2 n ++ l)) := by
  have e1 : (((h * 256 + s : Nat) : Int) / 256 % 256) = h := by omega
  have e2 : (((h * 256 + s : Nat) : Int) % 256) = s := by omega
  have b2 : ∀ m : Nat, vs (be 2 m) = [.int .u8 ((m : Int) / 256 % 256), .int .u8 ((m : Int) % 256)] := by intro m; simp [be, vs]
  rw [vs_append, vs_append, b2, b2, e1, e2]
  rfl
theorem cv_row (h s n : Nat) (l : List UInt8) (hl : l.length = n) (h8 : h ≤ 8) (s7 : s ≤ 7) (hn : n < 65536) :
    (((((List.replicate (n + 4) (Value.int .u8 0)).set 0 (.int .u8 (h : Int))).set 1 (.int .u8 (s : Int))).set 2 (.int .u8 ((n : Int) / 256 % 256))).set (2 + 1) (.int .u8 ((n : Int) % 256))).take 4 ++ (vs l ++ (((((List.replicate (n + 4) (Value.int .u8 0)).set 0 (.int .u8 (h : Int))).set 1 (.int .u8 (s : Int))).set 2 (.int .u8 ((n : Int) / 256 % 256))).set (2 + 1) (.int .u8 ((n : Int) % 256))).drop (4 + n)) = vs (be 2 (h * 256 + s) ++ (be 2 n ++ l)) := by
  rw [← cv_out h s n l h8 s7 hn]
  have e : List.replicate (n + 4) (Value.int .u8 0) = Value.int .u8 0 :: Value.int .u8 0 :: Value.int .u8 0 :: Value.int .u8 0 :: List.replicate n (Value.int .u8 0) := by
    rw [List.replicate_succ, List.replicate_succ, List.replicate_succ, List.replicate_succ]
  rw [e]
  have e2 : 4 + n = n + 1 + 1 + 1 + 1 := by omega
  rw [e2]
  simp
set_option maxHeartbeats 2000000 in
theorem marshalCv_any (h s b ra n c : Nat) (l : List UInt8) (hn : l.length = n) (h0 : 0 < n) (h6 : n < 60000) (ok : OkP h s) (hs : s = 1 ∨ s = 3 ∨ s = 7) (w : World) (hk : Blk w b 122 #[.int .u16 (h : Int), .int .u16 (s : Int), .slice (some ⟨ra, 0, none⟩) n c]) (hr : Rd w (some ⟨ra, 0, none⟩) (vs l)) :
    Calls Tryd.prog 35 #[.pointer (some ⟨b, 0, none⟩)] w fun e w' =>
      ∃ A' n' c', e = .returned (.tuple #[.slice A' n' c', .nilIface]) ∧ n' = (be 2 (code h s) ++ (be 2 n ++ l)).length ∧ Rd w' A' (vs (be 2 (code h s) ++ (be 2 n ++ l))) ∧ Below w.heap.size w w' := by
  have h8 : h ≤ 8 := by rcases ok.split with ⟨_, _, h⟩ | ⟨_, _, h⟩ <;> omega
  have s7 : s ≤ 7 := by omega
  have hcode := code_plain h s s7
  have HU := Lib.hid (fun a W hk => algUnm_ok a h s ok (.int .u16 0) (.int .u16 0) W hk)
  rw [hcode] at HU ⊢
  have t1 : decide ((255 : Int) < h) = false := by simp; omega
  have t2 : decide ((255 : Int) < s) = false := by simp; omega
  have t1' : ¬ 255 < h := by omega
  have t2' : ¬ 255 < s := by omega
  have w1 : IntKind.u16.wrap ((h : Int) * 256) = (h : Int) * 256 := by rw [IntKind.wrap_u16]; omega
  have hor := or_code h s h8 s7
  have k0 := hk.cell 0
  have k1 := hk.cell 1
  have k2 := hk.cell 2
  simp at k0 k1 k2
  have HK := Lib.hid hk
  have HR := Lib.hid hr
  have HN := Lib.hid hn
  have H0 := Lib.hid h0
  have H6 := Lib.hid h6
  have H8 := Lib.hid h8
  have S7 := Lib.hid s7
  clear hk hr hn h0 h6 h8 s7 hs ok hcode
  go_enter Tryd.func35, Tryd.ntmps35
  go_wp2_with fail
  go_quiet (fail)
  have hW0 : Below w.heap.size w (w.drewN nq) := below_drewN (Below.refl _ _) nq
  generalize w.drewN nq = W at *
  go_wp2_with fail
  have hkW := HK.out.keep hW0
  refine (HU.out W.heap.size _ (Blk.new W 106 _)).mono ?_
  rintro e w2 ⟨rfl, _, ht2⟩
  have hb2 : Below w.heap.size w w2 := below_two hW0 (((Tch.alloc W _).then ht2 (by simp)).toBelow (Nat.le_refl _))
  have k0 := (HK.out.keep hb2).cell 0
  have k1 := (HK.out.keep hb2).cell 1
  have k2 := (HK.out.keep hb2).cell 2
  simp at k0 k1 k2
  have e4 : (4 : Int) + (n : Int) = ((n + 4 : Nat) : Int) := by omega
  obtain ⟨m, hm⟩ : ∃ m, n + 4 = m := ⟨_, rfl⟩
  rw [hm] at e4
  have e5 : wrap64 (m : Int) = (m : Int) := by have := H6.out; unfold wrap64; omega
  have HM := Lib.hid hm
  clear hm hkW ht2 hW0
  go_wp2_with fail
  refine upon_make 39 5 (.int .u8 0) 1 Tryd.underlying39 u8info rfl m m rfl rfl (Nat.le_refl _) (by have := HM.out; have := H6.out; omega) (by have := HM.out; have := H6.out; simp only [maxLen]; omega) ?_
  intro w3 hown hb3 hsz3
  have HB3 := Lib.hid (below_two hb2 hb3)
  have k0 := (HK.out.keep HB3.out).cell 0
  have k1 := (HK.out.keep HB3.out).cell 1
  have k2 := (HK.out.keep HB3.out).cell 2
  simp at k0 k1 k2
  have hbs : b < w2.heap.size := Nat.lt_of_lt_of_le HK.out.lt hb2.size
  have hne : ¬ b = w2.heap.size := Nat.ne_of_lt hbs
  have hne' : ¬ w2.heap.size = b := fun e => hne e.symm
  obtain ⟨v0, hv0, hc0, hf0⟩ := hown.at_ 0 (by have := HM.out; omega)
  obtain ⟨v1, hv1, hc1, hf1⟩ := hown.at_ 1 (by have := HM.out; have := H0.out; omega)
  have hs0 := (hown.set 0 (by have := HM.out; omega) (.int .u8 (h : Int))).set 1 (by have := HM.out; have := H0.out; omega) (.int .u8 (s : Int))
  simp only [Nat.zero_add] at hc0 hf0 hc1 hf1 hs0
  have i1 : (1 : Int) < m := by have := HM.out; have := H0.out; omega
  have i0 : (0 : Int) < m := by have := HM.out; have := H0.out; omega
  have b1 : IntKind.u8.wrap (h : Int) = (h : Int) := by have := H8.out; rw [IntKind.wrap_u8]; omega
  have b2 : IntKind.u8.wrap (s : Int) = (s : Int) := by have := S7.out; rw [IntKind.wrap_u8]; omega
  have b1' : (h : Int) % 256 = (h : Int) := by have := H8.out; omega
  have b2' : (s : Int) % 256 = (s : Int) := by have := S7.out; omega
  have HS0 := Lib.hid hs0
  clear hs0 hown hv0 hv1 hsz3 hb3
  go_wp2_with fail
  have TX := (HB3.out.setCell (p := ⟨w2.heap.size, 0, none⟩) hb2.size (.int .u8 (h : Int))).setCell (p := ⟨w2.heap.size, 1, none⟩) hb2.size (.int .u8 (s : Int))
  clear k0 k1 k2 hc0 hf0 hc1 hf1
  generalize (w3.setCell ⟨w2.heap.size, 0, none⟩ (.int .u8 (h : Int))).setCell ⟨w2.heap.size, 1, none⟩ (.int .u8 (s : Int)) = X at *
  have HTX : Hid (Below w.heap.size w X.drew) := Lib.hid TX.drew
  have HOX : Hid (Own X.drew w2.heap.size 1 (some ⟨w2.heap.size, 0, none⟩) m m (((List.replicate m (Value.int .u8 0)).set 0 (.int .u8 (h : Int))).set 1 (.int .u8 (s : Int)))) := HS0
  have HKX : Hid (Blk X.drew b 122 #[.int .u16 (h : Int), .int .u16 (s : Int), .slice (some ⟨ra, 0, none⟩) n c]) := Lib.hid (HK.out.keep HTX.out)
  have HRX : Hid (Rd X.drew (some ⟨ra, 0, none⟩) (vs l)) := Lib.hid (HR.out.keep HTX.out)
  have k2 : X.drew.cell? ⟨b, 2, none⟩ = some (.slice (some ⟨ra, 0, none⟩) n c) := by have := HKX.out.cell 2; simpa using this
  have i2 : (2 : Int) ≤ m := by have := HM.out; omega
  have i2' : ¬ m = 2 := by have := HM.out; have := H0.out; omega
  have wn : IntKind.u16.wrap (n : Int) = (n : Int) := by have := H6.out; rw [IntKind.wrap_u16]; omega
  clear TX HS0
  refine wp_region_still_tail 9 (by kernel_rfl) (by kernel_rfl) ?_
  simp only [List.take_succ_cons, List.take_zero, List.drop_succ_cons, List.drop_zero]
  change wpStill _ _ (World.drew X) (fun a => wpList _ _ _ _ a (World.drew X)) _ _
  generalize World.drew X = wd at *
  repeat still_step
  refine wpStill_nil ?_
  go_wp2_with fail
  refine (put16_any w2.heap.size w2.heap.size 0 m m 2 2 (m - 2) (m - 2) _ n wd HOX.out (by omega) (by have := HM.out; omega) (by have := HM.out; have := H0.out; omega)).mono ?_
  rintro e w4 ⟨rfl, hO4, hg4⟩
  have HT4 : Hid (Below w.heap.size w w4) := Lib.hid (HTX.out.grown hg4 HTX.out.size (fun k hk => by simp at hk; subst hk; exact hb2.size))
  have HO4 : Hid (Own w4.drew w2.heap.size 1 (some ⟨w2.heap.size, 0, none⟩) m m _) := Lib.hid hO4
  have HK4 : Hid (Blk w4.drew b 122 #[.int .u16 (h : Int), .int .u16 (s : Int), .slice (some ⟨ra, 0, none⟩) n c]) := Lib.hid (HK.out.keep HT4.out.drew)
  have HR4 : Hid (Rd w4.drew (some ⟨ra, 0, none⟩) (vs l)) := Lib.hid (HR.out.keep HT4.out.drew)
  have HT4d : Hid (Below w.heap.size w w4.drew) := Lib.hid HT4.out.drew
  clear hO4 hg4 k2 HOX HKX HRX HTX
  have k2 : w4.drew.cell? ⟨b, 2, none⟩ = some (.slice (some ⟨ra, 0, none⟩) n c) := by have := HK4.out.cell 2; simpa using this
  have i4 : (4 : Int) ≤ m := by have := HM.out; omega
  have i4' : ¬ m = 4 := by have := HM.out; have := H0.out; omega
  go_wp2_with fail
  refine wp_region_still_tail 6 (by kernel_rfl) (by kernel_rfl) ?_
  simp only [List.take_succ_cons, List.take_zero, List.drop_succ_cons, List.drop_zero]
  change wpStill _ _ (World.drew w4) (fun a => wpList _ _ _ _ a (World.drew w4)) _ _
  generalize World.drew w4 = we at *
  repeat still_step
  refine wpStill_nil ?_
  refine held_copy_part rfl (.tmp 68) (.tmp 72) 39 39 rfl w2.heap.size 5 Tryd.underlying39 (by kernel_rfl) (k := 4) (p := 4) (by omega) rfl rfl HO4.out (ys := vs l) (by rw [vs_length, HN.out]; have := HM.out; show n = Nat.min n (m - 4); exact (Nat.min_eq_left (by omega)).symm) (by rw [vs_length, HN.out]; have := HM.out; omega) (by rw [vs_length, HN.out]; exact H0.out) HR4.out (vs_one _) ?_
  intro w5 hO5 hg5
  have HT5 : Hid (Below w.heap.size w w5) := Lib.hid (HT4d.out.grown hg5 HT4d.out.size (fun k hk => by simp at hk; subst hk; exact hb2.size))
  have hr5 := hO5.rd
  have hxs : (((((List.replicate m (Value.int .u8 0)).set 0 (.int .u8 (h : Int))).set 1 (.int .u8 (s : Int))).set 2 (.int .u8 ((n : Int) / 256 % 256))).set (2 + 1) (.int .u8 ((n : Int) % 256))).take 4 ++ (vs l ++ (((((List.replicate m (Value.int .u8 0)).set 0 (.int .u8 (h : Int))).set 1 (.int .u8 (s : Int))).set 2 (.int .u8 ((n : Int) / 256 % 256))).set (2 + 1) (.int .u8 ((n : Int) % 256))).drop (4 + (vs l).length)) = vs (be 2 (h * 256 + s) ++ (be 2 n ++ l)) := by
    rw [vs_length, HN.out, ← HM.out]
    exact cv_row h s n l HN.out H8.out S7.out (Nat.lt_trans H6.out (by decide))
  rw [hxs] at hr5
  have HR5 := Lib.hid hr5
  clear hO5 hg5 hr5 hxs k2
  go_wp2_with fail
  go_ret2
  exact ⟨_, _, _, rfl, by rw [List.length_append, List.length_append, be_length, be_length, HN.out, ← HM.out]; omega, HR5.out, HT5.out⟩
end Go.Proofs.YtmappdbodnlepaaDoor
