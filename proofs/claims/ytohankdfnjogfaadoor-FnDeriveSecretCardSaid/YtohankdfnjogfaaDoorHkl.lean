/- Walks: the secret that is derived, in the implementation. -/
import Derived.Test.YtohankdfnjogfaaDoorHkx
import Derived.Test.YtohankdfnjogfaaDoorBp6
namespace Go.Proofs.YtohankdfnjogfaaDoor
open Go.RowKit Go.Cv
set_option maxRecDepth 100000
set_option linter.unusedVariables false
theorem entersH {f : FuncId} {fn : Func} {c : Code} (hf : Tryd.prog.funcs[f]? = some fn) (hname : (fn.name == "runtime.NumGoroutine") = false) (hb : fn.body = some c) (args : Array Value) (w : World) :
    (callFunc f args).run Tryd.prog w = .ok (.enter f args) w := by
  have h1 : fn.name ≠ "runtime.NumGoroutine" := by simpa using hname
  simp [callFunc, hf, h1, hb]
theorem startBP (w : World) (P : Nat → Prop) (hP : ∀ k, P k → k < w.heap.size) : BP P (w.alloc (.cells #[.nilIface, .slice none 0 0, .bool false, .pointer none, .int .i64 0, .int .i64 0, .bool false, .pointer none] 54)) w.heap.size (.pointer none) 0 0 [] :=
  ⟨none, 0, Blk.new _ _ _, Own.nil _ _ _, .inl rfl, fun h => Nat.lt_irrefl _ (hP _ h), fun k hk => by rw [World.size_alloc]; exact Nat.lt_succ_of_lt (hP k hk)⟩
theorem labFill1 (P0 : Nat → Prop) (w0 : World) (x ra n c icb : Nat) (l : List UInt8) (hn : l.length = n) (hx : w0.cell? ⟨x, 0, none⟩ = some (.slice (some ⟨ra, 0, none⟩) n c)) (hr : Rd w0 (some ⟨ra, 0, none⟩) (vs l)) (hPx : P0 x) (hPr : P0 ra) :
    Fills P0 w0 22 #[.pointer (some ⟨x, 0, none⟩)] icb l := by
  intro w1 P q off pl k hsub hk hic hPi h0 hs hbp
  have h1 := hk.cell hx hPx
  have HA := Lib.hid (addPBytes_any P q (.pointer (some ⟨icb, 0, none⟩)) off pl k l (some ⟨ra, 0, none⟩) n c hn (by omega) (by omega) w1 hbp (hr.kp hk hPr))
  clear hx hr hPx hPr hsub hk hic hPi h0 hs hbp
  show Calls Tryd.prog 22 #[.pointer (some ⟨q, 0, none⟩), .pointer (some ⟨x, 0, none⟩)] w1 _
  go_enter Tryd.func22, Tryd.ntmps22
  go_wp2_with fail
  refine HA.out.mono ?_
  rintro e w2 ⟨rfl, h3, h4⟩
  go_wp2_with fail
  go_end0
  exact ⟨rfl, h3, h4⟩
theorem labFill2 (P0 : Nat → Prop) (w0 : World) (x ra n c icb : Nat) (l : List UInt8) (hn : l.length = n) (hx : w0.cell? ⟨x, 0, none⟩ = some (.slice (some ⟨ra, 0, none⟩) n c)) (hr : Rd w0 (some ⟨ra, 0, none⟩) (vs l)) (hPx : P0 x) (hPr : P0 ra) :
    Fills P0 w0 24 #[.pointer (some ⟨x, 0, none⟩)] icb l := by
  intro w1 P q off pl k hsub hk hic hPi h0 hs hbp
  have h1 := hk.cell hx hPx
  have HA := Lib.hid (addPBytes_any P q (.pointer (some ⟨icb, 0, none⟩)) off pl k l (some ⟨ra, 0, none⟩) n c hn (by omega) (by omega) w1 hbp (hr.kp hk hPr))
  clear hx hr hPx hPr hsub hk hic hPi h0 hs hbp
  show Calls Tryd.prog 24 #[.pointer (some ⟨q, 0, none⟩), .pointer (some ⟨x, 0, none⟩)] w1 _
  go_enter Tryd.func24, Tryd.ntmps24
  go_wp2_with fail
  refine HA.out.mono ?_
  rintro e w2 ⟨rfl, h3, h4⟩
  go_wp2_with fail
  go_end0
  exact ⟨rfl, h3, h4⟩
theorem fnNotNil (b : Nat) (w : World) : (binOp .eql 35 (.func (Fn.func 17) #[] #[.pointer (some ⟨b, 0, none⟩)]) .nilFunc).run Tryd.prog w = .ok (.bool false) w := by kernel_rfl
def dtls13 : List UInt8 := [100, 116, 108, 115, 49, 51]
/-- What a secret is expanded with. -/
def hkInfo (s : Nat) (label ctx : List UInt8) : List UInt8 := (be 2 s ++ (be 1 (dtls13 ++ label).length ++ (dtls13 ++ label))) ++ (be 1 ctx.length ++ ctx)
set_option maxHeartbeats 4000000 in
theorem expandLabel (b kind : Nat) (hk : kind < 64) (A1 : Option Addr) (n1 c1 ca cc : Nat) (key label ctx : List UInt8) (hn1 : key.length = n1) (hs1 : n1 ≤ 50000) (hl1 : 1 ≤ label.length) (hl2 : label.length ≤ 249) (hcl : ctx.length = toySize kind) (w : World)
    (hb : w.cell? ⟨b, 0, none⟩ = some (.int .i64 (kind : Nat))) (hr1 : Rd w A1 (vs key)) (hrc : Rd w (some ⟨ca, 0, none⟩) (vs ctx)) (hca : ca < w.heap.size) :
    Calls Tryd.prog 16 #[.func (Fn.func 17) #[] #[.pointer (some ⟨b, 0, none⟩)], .slice A1 n1 c1, .string (S label), .slice (some ⟨ca, 0, none⟩) (toySize kind) cc, .int .i64 (toySize kind : Nat)] w fun e w' => ∃ A' c', e = .returned (.tuple #[.slice A' (toySize kind) c', .nilIface]) ∧ Rd w' A' (vs (toyHmac kind key (hkInfo (toySize kind) label ctx ++ [1]))) ∧ Below w.heap.size w w' := by
  have hmf : ∀ (fn : Fn) (first cap : Array Value) (w : World), (Instr.makeFunc fn first cap).run Tryd.prog w = .ok (.func fn first cap) w := fun _ _ _ _ => rfl
  have hnn := fnNotNil b
  have H1 := Lib.hid (fun W (h : Below w.heap.size w W) => hashSize b kind hk W (keep_of_below h _ _ hb))
  have H2 := Lib.hid (fun W info (hi : List.length info ≤ 50000) (h : Below w.heap.size w W) => expandOut b kind hk A1 n1 c1 key info hn1 hs1 hi W (keep_of_below h _ _ hb) (hr1.keep h))
  have hs32 := toySize_le kind
  have HRC := Lib.hid hrc
  have HCA := Lib.hid hca
  obtain ⟨s, hs⟩ : ∃ s, toySize kind = s := ⟨_, rfl⟩
  rw [hs] at H1 H2 hs32 hcl ⊢
  have e1 : wrap64 ((s : Int) * 255) = (s : Int) * 255 := by unfold wrap64; omega
  have e3 : IntKind.u16.wrap (s : Int) = (s : Int) := by rw [IntKind.wrap_u16]; omega
  have t1 : decide ((s : Int) * 255 < s) = false := by simp; omega
  have t2 : ¬ ((s : Int) * 255 < s) := by omega
  have t3 : decide ((255 : Int) < s) = false := by simp; omega
  have t4 : ¬ (255 < s) := by omega
  have HCL := Lib.hid hcl
  have hfl : (dtls13 ++ label).length = 6 + label.length := by rw [List.length_append]; rfl
  have hfs : (Op.stringOp .add (.mk #[100, 116, 108, 115, 49, 51]) (S label)).run Tryd.prog = fun w => .ok (.string (S (dtls13 ++ label))) w := by
    funext w
    exact run_add dtls13 label (by rw [show dtls13.length = 6 from rfl]; omega) w
  obtain ⟨fl, hfe⟩ : ∃ fl, dtls13 ++ label = fl := ⟨_, rfl⟩
  obtain ⟨m, hm⟩ : ∃ m, fl.length = m := ⟨_, rfl⟩
  have HFE := Lib.hid hfe
  have HM := Lib.hid hm
  rw [hfe, hm] at hfl
  rw [hfe] at hfs
  have t5 : decide ((m : Int) < 7) = false := by simp; omega
  have t6 : ¬ m < 7 := by omega
  have t7 : decide ((255 : Int) < m) = false := by simp; omega
  have t8 : ¬ 255 < m := by omega
  have HMS : Hid (m ≤ 255) := Lib.hid (by omega)
  clear hn1 hs1 hs hb hr1 hk hfl hl1 hl2 hcl hfe hm hrc hca
  go_enter Tryd.func16, Tryd.ntmps16
  go_wp2_with fail
  have hcx0 : (w.alloc (.cells #[.slice (some ⟨ca, 0, none⟩) s cc] 30)).cell? ⟨w.heap.size, 0, none⟩ = some (.slice (some ⟨ca, 0, none⟩) s cc) := by simp
  have hsz0 := World.size_alloc w (.cells #[.slice (some ⟨ca, 0, none⟩) s cc] 30)
  have hb0 := below_alloc w (.cells #[.slice (some ⟨ca, 0, none⟩) s cc] 30)
  generalize (w.alloc (.cells #[.slice (some ⟨ca, 0, none⟩) s cc] 30)) = w0 at *
  refine upon_conv_sb 9 30 5 Tryd.underlying9 Tryd.underlying30 Tryd.underlying5 fl (by have := HMS.out; have := HM.out; simp only [maxLen]; omega) ?_
  intro c2 w1 hO1 hb1 hlt1
  rw [HM.out] at hO1 ⊢
  obtain ⟨x, hx⟩ : ∃ x, w.heap.size = x := ⟨_, rfl⟩
  obtain ⟨r, hr⟩ : ∃ r, w0.heap.size = r := ⟨_, rfl⟩
  rw [hr, hx] at hsz0
  rw [hr] at hO1 hb1 hlt1 ⊢
  rw [hx] at hcx0 hb0 ⊢
  obtain ⟨y, hy⟩ : ∃ y, w1.heap.size = y := ⟨_, rfl⟩
  have HX := Lib.hid hx
  have HXR : Hid (r = x + 1 ∧ r < y) := Lib.hid ⟨hsz0, by omega⟩
  have HO1 := Lib.hid hO1.rd
  have cx1 := keep_of_below (by rw [hr]; exact hb1) _ _ hcx0
  have HB1 : Hid (Below x w w1) := Lib.hid (hb0.trans (hb1.mono (by omega)))
  have n1 : ¬ x = w1.heap.size := by omega
  have n2 : x < w1.heap.size := by omega
  have HY := Lib.hid hy
  clear hO1 hb1 hlt1 hcx0 hb0 hsz0 hr hx hy
  go_wp2_with fail
  have hbp := startBP (w1.alloc (.cells #[.slice (some ⟨r, 0, none⟩) m c2] 30)) (fun k => k < w1.heap.size + 1) (fun k hk => by rw [World.size_alloc]; exact hk)
  have hcy := ((Blk.new w1 30 #[.slice (some ⟨r, 0, none⟩) m c2]).alloc (.cells #[.nilIface, .slice none 0 0, .bool false, .pointer none, .int .i64 0, .int .i64 0, .bool false, .pointer none] 54)).cell 0
  replace hcy := hcy.trans (rfl : _ = some (Value.slice (some ⟨r, 0, none⟩) m c2))
  have hbw : Below w1.heap.size w1 ((w1.alloc (.cells #[.slice (some ⟨r, 0, none⟩) m c2] 30)).alloc (.cells #[.nilIface, .slice none 0 0, .bool false, .pointer none, .int .i64 0, .int .i64 0, .bool false, .pointer none] 54)) := below_two (below_alloc _ _) (below_alloc _ _)
  rw [World.size_alloc] at hbp
  generalize (World.alloc (World.alloc w1 _) _) = W at *
  rw [HY.out] at hbp hcy hbw n1 n2 ⊢
  have hcx := keep_of_below (by rw [HY.out]; exact hbw) _ _ cx1
  have HB2 : Hid (Below x w W) := Lib.hid (HB1.out.trans (hbw.mono (by omega)))
  have HRL : Hid (Rd W (some ⟨r, 0, none⟩) (vs fl)) := Lib.hid (HO1.out.keep (by rw [HY.out]; exact hbw))
  refine (H1.out W (by rw [HX.out]; exact HB2.out)).mono ?_
  rintro e w3 ⟨d, rfl, hs3, hb3⟩
  have HS3 := Lib.hid hs3
  have HB3 : Hid (Below x w w3) := Lib.hid (HB2.out.trans (hb3.mono (Nat.le_of_lt (block_lt hcx))))
  have hcx3 := keep_of_below hb3 _ _ hcx
  have HCX := Lib.hid hcx3
  have HXW : Hid (x < w3.heap.size) := Lib.hid (block_lt hcx3)
  have HCY := Lib.hid (keep_of_below hb3 _ _ hcy)
  have HRL3 := Lib.hid (HRL.out.keep hb3)
  have HAD := Lib.hid (addP16_any (fun k => k < y + 1) (y + 1) (.pointer none) 0 0 [] s (by simp) w3 (hbp.keep hb3))
  have HN := Lib.hid (And.intro n1 n2)
  clear hs3 hb3 hbp hcy hbw hcx hcx3 n1 n2 cx1 HB2 HRL HB1 HO1
  go_wp2_with fail
  refine HS3.out.mono ?_
  rintro e w3' ⟨rfl, rfl⟩
  go_wp2_with fail
  refine HAD.out.mono ?_
  rintro e w4 ⟨rfl, hbp4, hk4⟩
  have hcy4 := hk4.cell HCY.out (Nat.lt_succ_self _)
  have hcx4 := hk4.cell HCX.out (by show x < y + 1; have := HN.out.2; omega)
  have hrl4 := HRL3.out.kp hk4 (by show r < y + 1; have := HXR.out.2; omega)
  have HK4 : Hid (Kp (fun k => k < y + 1) w3 w4) := Lib.hid hk4
  have hrc4 : Rd w4 (some ⟨ca, 0, none⟩) (vs ctx) := (HRC.out.keep (by rw [HX.out]; exact HB3.out)).kp hk4 (by show ca < y + 1; have := HCA.out; rw [HX.out] at this; have := HN.out.2; omega)
  have HA1 := Lib.hid (alp8Top2_any (fun k => k < y + 1) w4 22 #[.pointer (some ⟨y, 0, none⟩)] (y + 1) 0 0 (be 2 s) fl (entersH Tryd.func22 (by kernel_rfl) rfl) (by rw [HM.out]; have := HMS.out; omega) (by rw [be_length, HM.out]; have := HMS.out; omega) (by simpa using hbp4) (fun icb => labFill1 _ w4 y r m c2 icb fl HM.out hcy4 hrl4 (Nat.lt_succ_self _) (by show r < y + 1; have := HXR.out.2; omega)))
  have HCX4 := Lib.hid hcx4
  have HRC4 := Lib.hid hrc4
  clear hcy4 hcx4 hrl4 hrc4 hbp4 hk4 HAD HCY HCX
  go_wp2_with fail
  refine HA1.out.mono ?_
  rintro e w5 ⟨rfl, icb, hbp5, hc5, hf5, hP5, hk5⟩
  have hcx5 := hk5.cell HCX4.out (by show x < y + 1; have := HN.out.2; omega)
  have hPc : ca < y + 1 := by have := HCA.out; rw [HX.out] at this; have := HN.out.2; omega
  have hrc5 := HRC4.out.kp hk5 hPc
  have HA2 := Lib.hid (alp8Mid_any (fun k => k < y + 1) w5 24 #[.pointer (some ⟨x, 0, none⟩)] (y + 1) icb 0 0 _ ctx (entersH Tryd.func24 (by kernel_rfl) rfl) (by rw [HCL.out]; omega) (by rw [List.length_append, List.length_append, be_length, be_length, HM.out, HCL.out]; have := HMS.out; omega) hbp5 hc5 hf5 hP5 (labFill2 _ w5 x ca s cc icb ctx HCL.out hcx5 hrc5 (by show x < y + 1; have := HN.out.2; omega) hPc))
  have HK5 := Lib.hid (HK4.out.trans hk5)
  clear hcx5 hPc hrc5 hbp5 hc5 hf5 hP5 hk5 HA1 HCX4 HRC4 HK4
  go_wp2_with fail
  refine HA2.out.mono ?_
  rintro e w6 ⟨rfl, hbp6, hc6, hf6, hk6⟩
  have HBY := Lib.hid (bytesP_any _ (y + 1) _ _ _ (by rw [List.length_append, List.length_append, be_length]; omega) w6 hbp6)
  have HB6 : Hid (Below x w w6) := Lib.hid (HB3.out.trans ((HK5.out.trans hk6).toBelow (Nat.le_of_lt HXW.out) (fun k hk => by show k < y + 1; have := HN.out.2; omega)))
  clear hbp6 hc6 hf6 hk6 HA2 HK5
  go_wp2_with fail
  refine HBY.out.mono ?_
  rintro e w7 ⟨A7, n7, c7, rfl, hl7, hr7, hb7⟩
  obtain ⟨info, hinf⟩ : ∃ i, (be 2 s ++ (be 1 fl.length ++ fl)) ++ (be 1 ctx.length ++ ctx) = i := ⟨_, rfl⟩
  rw [hinf] at hl7 hr7
  have hik : hkInfo s label ctx = info := by rw [← hinf, hkInfo, HFE.out]
  have hil : info.length ≤ 50000 := by rw [← hinf]; simp only [List.length_append, be_length]; rw [HM.out, HCL.out]; have := HMS.out; omega
  have HR7 := Lib.hid hr7
  have HL7 := Lib.hid hl7
  have hb8 := HB6.out.trans (hb7.mono (by have := HB6.out.size; rw [HX.out] at this; exact this))
  have HB7 : Hid (Below x w w7) := Lib.hid hb8
  have HX7 := Lib.hid (H2.out w7 info hil (by rw [HX.out]; exact hb8))
  have HIK := Lib.hid hik
  clear hinf hik hil hr7 hl7 hb7 hb8 HBY
  go_wp2_with fail
  refine upon_conv_bs 30 9 5 Tryd.underlying30 Tryd.underlying5 Tryd.underlying9 info A7 n7 c7 HL7.out HR7.out ?_
  go_wp2_with fail
  refine HX7.out.mono ?_
  rintro e w8 ⟨A8, c8, rfl, hr8, hb8⟩
  have HF := Lib.hid (And.intro hr8 (HB7.out.trans (hb8.mono (by have := HB7.out.size; rw [HX.out] at this; exact this))))
  clear hr8 hb8 HX7
  go_wp2_with fail
  go_ret2
  have h9 := HF.out
  rw [← HX.out, ← HIK.out] at h9
  first | exact ⟨_, _, rfl, h9.1, h9.2⟩ | exact ⟨⟨_, _, rfl⟩, h9.1, h9.2⟩ | exact ⟨A8, ⟨c8, rfl⟩, h9.1, h9.2⟩ | exact ⟨A8, h9.1, h9.2⟩
theorem writtenH (kind : Nat) (l : List UInt8) (hl : l.length ≤ 50000) (w : World) : Calls Tryd.prog 13 #[.int .i64 (kind : Nat), .string (S l)] w fun e w' => ∃ d A, e = .returned (.iface 46 (.pointer (some ⟨d, 0, none⟩))) ∧ Dg w' d kind A l ∧ Below w.heap.size w w' := by
  have HL := Lib.hid hl
  clear hl
  go_enter Tryd.func13, Tryd.ntmps13
  go_wp2_with fail
  refine upon_conv_sb 9 30 5 Tryd.underlying9 Tryd.underlying30 Tryd.underlying5 l (by have := HL.out; simp only [maxLen]; omega) ?_
  intro c1 w1 hO1 hb1 hlt1
  have HO1 := Lib.hid hO1
  have HB1 := Lib.hid hb1
  have HT1 := Lib.hid hlt1
  clear hO1 hb1 hlt1
  go_wp2_with fail
  go_ret
  have hlt := HT1.out
  exact ⟨w1.heap.size, _, rfl, ⟨⟨c1, Blk.new _ _ _, (HO1.out.keep (below_alloc _ _)).lower (Nat.zero_le _)⟩, .inr ⟨_, rfl, by omega, by rw [World.size_alloc]; omega⟩⟩, below_two HB1.out (below_alloc _ _)⟩
set_option maxHeartbeats 1000000 in
theorem deriveH (b kind d : Nat) (hk : kind < 64) (A0 A1 : Option Addr) (n1 c1 : Nat) (key label text : List UInt8) (hn1 : key.length = n1) (hs1 : n1 ≤ 50000) (ht : text.length ≤ 50000) (hl1 : 1 ≤ label.length) (hl2 : label.length ≤ 249) (w : World)
    (hb : w.cell? ⟨b, 0, none⟩ = some (.int .i64 (kind : Nat))) (hr1 : Rd w A1 (vs key)) (hd : Dg w d kind A0 text) :
    Calls Tryd.prog 11 #[.func (Fn.func 17) #[] #[.pointer (some ⟨b, 0, none⟩)], .slice A1 n1 c1, .string (S label), .iface 46 (.pointer (some ⟨d, 0, none⟩))] w fun e w' => ∃ A' c', e = .returned (.tuple #[.slice A' (toySize kind) c', .nilIface]) ∧ Rd w' A' (vs (toyHmac kind key (hkInfo (toySize kind) label (toySum kind text) ++ [1]))) ∧ Below w.heap.size w w' := by
  have hnn := fnNotNil b
  have HS := Lib.hid (digSum d kind A0 text hk (by omega) w hd)
  have HZ := Lib.hid (fun W (h : Below w.heap.size w W) => digSize d kind A0 text hk W (hd.keep h))
  have HE := Lib.hid (fun ca cc W (h : Below w.heap.size w W) (hrc : Rd W (some ⟨ca, 0, none⟩) (vs (toySum kind text))) (hca : ca < W.heap.size) => expandLabel b kind hk A1 n1 c1 ca cc key label (toySum kind text) hn1 hs1 hl1 hl2 (toySum_length _ _) W (keep_of_below h _ _ hb) (hr1.keep h) hrc hca)
  have hs32 := toySize_le kind
  have hs0 : 4 ≤ toySize kind := by unfold toySize; omega
  obtain ⟨s, hs⟩ : ∃ s, toySize kind = s := ⟨_, rfl⟩
  rw [hs] at HS HZ HE hs32 hs0 ⊢
  obtain ⟨ctx, hc⟩ : ∃ c, toySum kind text = c := ⟨_, rfl⟩
  have HCL : Hid (ctx.length = s) := Lib.hid (by rw [← hc, toySum_length, hs])
  rw [hc] at HS HE ⊢
  clear hb hr1 hd hn1 hs1 ht hl1 hl2 hk hs hc
  go_enter Tryd.func11, Tryd.ntmps11
  go_wp2_with fail
  refine HS.out.mono ?_
  rintro e w1 ⟨A2, c2, rfl, hO2, hi2, hb2⟩
  have HO2 := Lib.hid hO2
  have HB2 := Lib.hid hb2
  obtain ⟨ca, rfl⟩ : ∃ ca, A2 = some ⟨ca, 0, none⟩ := by
    rcases hi2 with rfl | ⟨a, h, _⟩
    · obtain ⟨_, hcc, _, h | ⟨b', o', hA, _⟩⟩ := hO2
      · omega
      · cases hA
    · exact ⟨a, h⟩
  have HCA : Hid (ca < w1.heap.size) := Lib.hid (hO2.there (by omega))
  clear hO2 hi2 hb2
  go_wp2_with fail
  refine (HZ.out w1 HB2.out).mono ?_
  rintro e w1' ⟨rfl, rfl⟩
  go_wp2_with fail
  refine (HE.out ca c2 w1 HB2.out HO2.out.rd HCA.out).mono ?_
  rintro e w2 ⟨A3, c3, rfl, hr3, hb3⟩
  have HF := Lib.hid (And.intro hr3 (HB2.out.trans (hb3.mono HB2.out.size)))
  clear hr3 hb3
  go_wp2_with fail
  go_ret2
  have h9 := HF.out
  first | exact ⟨_, _, rfl, h9.1, h9.2⟩ | exact ⟨⟨_, _, rfl⟩, h9.1, h9.2⟩ | exact ⟨A3, ⟨c3, rfl⟩, h9.1, h9.2⟩ | exact ⟨A3, h9.1, h9.2⟩
set_option maxHeartbeats 1000000 in
theorem implDs (kind : Nat) (hk : kind < 64) (key label text : List UInt8) (hs1 : key.length ≤ 50000) (ht : text.length ≤ 50000) (hl1 : 1 ≤ label.length) (hl2 : label.length ≤ 249) (w : World) :
    Calls Tryd.prog 6 #[.int .i64 (kind : Nat), .string (S key), .string (S label), .string (S text)] w fun e w' => e = .returned (.tuple #[.string (S (toyHmac kind key (hkInfo (toySize kind) label (toySum kind text) ++ [1]))), .bool true]) ∧ Below w.heap.size w w' := by
  have HF := Lib.hid (hashFn kind)
  have HW := Lib.hid (writtenH kind text ht)
  have HD := Lib.hid (fun b d A0 A1 c1 W => deriveH b kind d hk A0 A1 key.length c1 key label text rfl hs1 ht hl1 hl2 W)
  have HS := Lib.hid hs1
  have HTL : Hid ((toyHmac kind key (hkInfo (toySize kind) label (toySum kind text) ++ [1])).length = toySize kind) := Lib.hid (toyHmac_length _ _ _)
  obtain ⟨s, hs⟩ : ∃ s, toySize kind = s := ⟨_, rfl⟩
  rw [hs] at HD HTL ⊢
  obtain ⟨o, ho⟩ : ∃ o, toyHmac kind key (hkInfo s label (toySum kind text) ++ [1]) = o := ⟨_, rfl⟩
  rw [ho] at HD HTL ⊢
  clear hk hs1 ht hl1 hl2 hs ho
  go_enter Tryd.func6, Tryd.ntmps6
  go_wp2_with fail
  refine (HF.out w).mono ?_
  rintro e w1 ⟨b, rfl, hb, hb1⟩
  have HBC := Lib.hid hb
  have HB1 := Lib.hid hb1
  clear hb hb1
  go_wp2_with fail
  refine upon_conv_sb 9 30 5 Tryd.underlying9 Tryd.underlying30 Tryd.underlying5 key (by have := HS.out; simp only [maxLen]; omega) ?_
  intro c2 w2 hO2 hb2 _
  have HO2 := Lib.hid hO2.rd
  have HBC2 := Lib.hid (keep_of_below hb2 _ _ HBC.out)
  have HB2 := Lib.hid (HB1.out.trans (hb2.mono HB1.out.size))
  clear hO2 hb2
  go_wp2_with fail
  refine (HW.out w2).mono ?_
  rintro e w3 ⟨d, A0, rfl, hd, hb3⟩
  have HD3 := Lib.hid (HD.out b d A0 _ c2 w3 (keep_of_below hb3 _ _ HBC2.out) (HO2.out.keep hb3) hd)
  have HB3 := Lib.hid (HB2.out.trans (hb3.mono HB2.out.size))
  clear hd hb3
  go_wp2_with fail
  refine HD3.out.mono ?_
  rintro e w4 ⟨A', c', rfl, hrd, hb4⟩
  have HT := Lib.hid (textOk A' s c' o HTL.out w4 hrd)
  have HB4 := Lib.hid (HB3.out.trans (hb4.mono HB3.out.size))
  clear hrd hb4 HD3
  go_wp2_with fail
  refine HT.out.mono ?_
  rintro e w5 ⟨rfl, rfl⟩
  go_wp2_with fail
  first | go_ret2 | go_ret
  first | exact ⟨rfl, HB4.out⟩ | exact ⟨⟨rfl, rfl⟩, HB4.out⟩ | exact HB4.out
end Go.Proofs.YtohankdfnjogfaaDoor
