/- Walks: the data by which a handshake is verified, in the library. -/
import Derived.Test.YtohankdfnjogfaaPh4
namespace Go.Proofs.Ytohankdfnjogfaa
open Go.RowKit Go.Cv
set_option maxRecDepth 100000
set_option linter.unusedVariables false
set_option maxHeartbeats 2000000 in
theorem prfVd (b kind : Nat) (hk : kind < 64) (A1 A2 : Option Addr) (n1 c1 n2 c2 : Nat) (key bodies label : List UInt8) (hn1 : key.length = n1) (hn2 : bodies.length = n2) (hs1 : n1 ≤ 50000) (hs2 : n2 ≤ 50000) (hl : label.length ≤ 100) (w : World)
    (hb : w.cell? ⟨b, 0, none⟩ = some (.int .i64 (kind : Nat))) (hr1 : Rd w A1 (vs key)) (hr2 : Rd w A2 (vs bodies)) :
    Calls Try.prog 25 #[.slice A1 n1 c1, .slice A2 n2 c2, .string (S label), .func (Fn.func 24) #[] #[.pointer (some ⟨b, 0, none⟩)]] w fun e w' => ∃ A' c' k, e = .returned (.tuple #[.slice A' 12 c', .nilIface]) ∧ 12 ≤ k * toySize kind ∧ Rd w' A' (vs ((phOut kind key (label ++ toySum kind bodies) k).take 12)) ∧ Below w.heap.size w w' := by
  have H1 := Lib.hid (hashOne b kind w hb)
  have HB := Lib.hid hb
  have HR1 := Lib.hid hr1
  have HR2 := Lib.hid hr2
  have HS := Lib.hid (And.intro hn1 (And.intro hn2 (And.intro hs1 (And.intro hs2 hl))))
  have HK := Lib.hid hk
  clear hb hr1 hr2 hn1 hn2 hs1 hs2 hl hk
  go_enter Try.func25, Try.ntmps25
  go_wp2_with fail
  refine H1.out.mono ?_
  rintro e w1 ⟨d, rfl, hD, hd, hb1⟩
  have HW := Lib.hid (digWrite d kind none [] bodies A2 n2 c2 HS.out.2.1 (by have := HS.out; simp; omega) w1 hD (HR2.out.keep hb1))
  have HB1 := Lib.hid hb1
  have HD := Lib.hid hd
  clear hD hd hb1
  go_wp2_with fail
  refine HW.out.mono ?_
  rintro e w2 ⟨rfl, A2', hD2, hfr, hT⟩
  have hB2 : Below w.heap.size w w2 := HB1.out.trans ⟨hT.os, hT.tape, hT.output, hT.size, fun k hk => hT.block k (by have := HB1.out.size; omega) (by have := HD.out; simp [foot]; omega)⟩
  have HB2 := Lib.hid hB2
  have HD2 := Lib.hid hD2
  clear hD2 hfr hT hB2
  go_wp2_with fail
  refine upon_conv_sb 9 33 5 Try.underlying9 Try.underlying33 Try.underlying5 label (by have := HS.out; simp only [maxLen]; omega) ?_
  intro c3 w3 hO3 hb3 hs3
  have HSU := Lib.hid (digSum d kind A2' ([] ++ bodies) HK.out (by have := HS.out; simp; omega) w3 (HD2.out.keep hb3))
  have HO3 := Lib.hid hO3
  have HB3 := Lib.hid (below_two HB2.out hb3)
  have HZ3 := Lib.hid hb3.size
  clear hO3 hb3 hs3
  go_wp2_with fail
  refine HSU.out.mono ?_
  rintro e w4 ⟨K, ck, rfl, hOK, hHi, hb4⟩
  have HO4 := Lib.hid (HO3.out.keep hb4)
  have HOK := Lib.hid hOK
  have HB4 := Lib.hid (below_two HB3.out hb4)
  have HZ4 : Hid (w2.heap.size ≤ w4.heap.size ∧ w.heap.size ≤ w2.heap.size) := Lib.hid ⟨Nat.le_trans HZ3.out hb4.size, HB2.out.size⟩
  clear hOK hHi hb4
  go_wp2_with (at_builtin; refine Held.on ?_)
  have hlen : (toySum kind ([] ++ bodies)).length = toySize kind := toySum_length _ _
  have hs32 := toySize_le kind
  refine held_append3 rfl (.tmp 26) (.tmp 28) 33 33 rfl w2.heap.size 5 _ 1 1 Try.underlying33 (.inl Try.underlying33) t_u8info rfl (by omega) (xs := vs label) (ys := vs (toySum kind ([] ++ bodies))) rfl rfl HO4.out ⟨by rw [vs_length, hlen]; omega, vs_one _, .inl ⟨K, ck, rfl, HOK.out.rd⟩⟩ (by have := HS.out; omega) (by have := HS.out; simp only [maxLen]; omega) HZ4.out.1 ?_
  intro A5 c5 w5 hO5 hg5 _
  have hB5 : Below w.heap.size w w5 := HB4.out.trans ⟨hg5.os, hg5.tape, hg5.output, hg5.size, fun k hk => hg5.block k (by have := HZ4.out; omega) (by simp; have := HZ4.out; omega)⟩
  have HP := Lib.hid (phashOf b kind 12 HK.out (by omega) (by omega) A1 A5 n1 c1 (label.length + toySize kind) c5 key (label ++ toySum kind bodies) HS.out.1 (by rw [List.length_append, toySum_length]) HS.out.2.2.1 (by have := HS.out; omega) w5 (keep_of_below hB5 _ _ HB.out) (HR1.out.keep hB5) (by have h9 := hO5.rd; rw [← vs_append] at h9; exact h9))
  have HB5 := Lib.hid hB5
  clear hO5 hg5 hB5 hs32 hlen
  go_wp2_with fail
  refine HP.out.mono ?_
  rintro e w6 ⟨A6, c6, k, rfl, hk6, hr6, hb6⟩
  have HR6 := Lib.hid (And.intro hk6 (And.intro hr6 (below_two HB5.out hb6)))
  clear hk6 hr6 hb6
  go_wp2_with fail
  first | go_ret2 | go_ret
  have h9 := HR6.out
  first | exact ⟨_, _, k, rfl, h9.1, h9.2.1, h9.2.2⟩ | exact ⟨k, h9.1, h9.2.1, h9.2.2⟩ | exact ⟨_, k, rfl, h9.1, h9.2.1, h9.2.2⟩ | exact ⟨⟨_, rfl⟩, k, h9.1, h9.2.1, h9.2.2⟩ | exact ⟨_, k, h9.1, h9.2.1, h9.2.2⟩ | exact ⟨A6, ⟨c6, rfl⟩, k, h9.1, h9.2.1, h9.2.2⟩
end Go.Proofs.Ytohankdfnjogfaa
