/- Walks: the data by which a handshake is verified, in the implementation. -/
import Derived.Test.YtohankdfnjogfaaVd1
namespace Go.Proofs.Ytohankdfnjogfaa
open Go.RowKit Go.Cv
set_option maxRecDepth 100000
set_option linter.unusedVariables false
def vdLabel (client : Bool) : List UInt8 := if client then [99, 108, 105, 101, 110, 116, 32, 102, 105, 110, 105, 115, 104, 101, 100] else [115, 101, 114, 118, 101, 114, 32, 102, 105, 110, 105, 115, 104, 101, 100]
theorem vdClient (b kind : Nat) (hk : kind < 64) (A1 A2 : Option Addr) (n1 c1 n2 c2 : Nat) (key bodies : List UInt8) (hn1 : key.length = n1) (hn2 : bodies.length = n2) (hs1 : n1 ≤ 50000) (hs2 : n2 ≤ 50000) (w : World)
    (hb : w.cell? ⟨b, 0, none⟩ = some (.int .i64 (kind : Nat))) (hr1 : Rd w A1 (vs key)) (hr2 : Rd w A2 (vs bodies)) :
    Calls Try.prog 15 #[.slice A1 n1 c1, .slice A2 n2 c2, .func (Fn.func 24) #[] #[.pointer (some ⟨b, 0, none⟩)]] w fun e w' => ∃ A' c' k, e = .returned (.tuple #[.slice A' 12 c', .nilIface]) ∧ 12 ≤ k * toySize kind ∧ Rd w' A' (vs ((phOut kind key (vdLabel true ++ toySum kind bodies) k).take 12)) ∧ Below w.heap.size w w' := by
  have HP := Lib.hid (prfVd b kind hk A1 A2 n1 c1 n2 c2 key bodies (vdLabel true) hn1 hn2 hs1 hs2 (by decide) w hb hr1 hr2)
  clear hk hn1 hn2 hs1 hs2 hb hr1 hr2
  go_enter Try.func15, Try.ntmps15
  go_wp2_with fail
  refine HP.out.mono ?_
  rintro e w6 ⟨A6, c6, k, rfl, hk6, hr6, hb6⟩
  have HR6 := Lib.hid (And.intro hk6 (And.intro hr6 hb6))
  clear hk6 hr6 hb6
  go_wp2_with fail
  first | go_ret2 | go_ret
  have h9 := HR6.out
  first | exact ⟨_, _, k, rfl, h9.1, h9.2.1, h9.2.2⟩ | exact ⟨k, h9.1, h9.2.1, h9.2.2⟩ | exact ⟨_, k, rfl, h9.1, h9.2.1, h9.2.2⟩ | exact ⟨⟨_, rfl⟩, k, h9.1, h9.2.1, h9.2.2⟩ | exact ⟨_, k, h9.1, h9.2.1, h9.2.2⟩ | exact ⟨A6, ⟨c6, rfl⟩, k, h9.1, h9.2.1, h9.2.2⟩
theorem vdServer (b kind : Nat) (hk : kind < 64) (A1 A2 : Option Addr) (n1 c1 n2 c2 : Nat) (key bodies : List UInt8) (hn1 : key.length = n1) (hn2 : bodies.length = n2) (hs1 : n1 ≤ 50000) (hs2 : n2 ≤ 50000) (w : World)
    (hb : w.cell? ⟨b, 0, none⟩ = some (.int .i64 (kind : Nat))) (hr1 : Rd w A1 (vs key)) (hr2 : Rd w A2 (vs bodies)) :
    Calls Try.prog 16 #[.slice A1 n1 c1, .slice A2 n2 c2, .func (Fn.func 24) #[] #[.pointer (some ⟨b, 0, none⟩)]] w fun e w' => ∃ A' c' k, e = .returned (.tuple #[.slice A' 12 c', .nilIface]) ∧ 12 ≤ k * toySize kind ∧ Rd w' A' (vs ((phOut kind key (vdLabel false ++ toySum kind bodies) k).take 12)) ∧ Below w.heap.size w w' := by
  have HP := Lib.hid (prfVd b kind hk A1 A2 n1 c1 n2 c2 key bodies (vdLabel false) hn1 hn2 hs1 hs2 (by decide) w hb hr1 hr2)
  clear hk hn1 hn2 hs1 hs2 hb hr1 hr2
  go_enter Try.func16, Try.ntmps16
  go_wp2_with fail
  refine HP.out.mono ?_
  rintro e w6 ⟨A6, c6, k, rfl, hk6, hr6, hb6⟩
  have HR6 := Lib.hid (And.intro hk6 (And.intro hr6 hb6))
  clear hk6 hr6 hb6
  go_wp2_with fail
  first | go_ret2 | go_ret
  have h9 := HR6.out
  first | exact ⟨_, _, k, rfl, h9.1, h9.2.1, h9.2.2⟩ | exact ⟨k, h9.1, h9.2.1, h9.2.2⟩ | exact ⟨_, k, rfl, h9.1, h9.2.1, h9.2.2⟩ | exact ⟨⟨_, rfl⟩, k, h9.1, h9.2.1, h9.2.2⟩ | exact ⟨_, k, h9.1, h9.2.1, h9.2.2⟩ | exact ⟨A6, ⟨c6, rfl⟩, k, h9.1, h9.2.1, h9.2.2⟩
set_option maxHeartbeats 2000000 in
theorem implVd (kind : Nat) (cl : Bool) (hk : kind < 64) (key seed : List UInt8) (hs1 : key.length ≤ 50000) (hs2 : seed.length ≤ 50000) (w : World) :
    Calls Try.prog 8 #[.int .i64 (kind : Nat), .bool cl, .string (S key), .string (S seed)] w fun e w' => ∃ k, e = .returned (.tuple #[.string (S ((phOut kind key (vdLabel cl ++ toySum kind seed) k).take 12)), .bool true]) ∧ 12 ≤ k * toySize kind ∧ Below w.heap.size w w' := by
  have HF := Lib.hid (hashFn kind)
  have HK := Lib.hid hk
  have HS := Lib.hid (And.intro hs1 hs2)
  clear hk hs1 hs2
  cases cl
  · go_enter Try.func8, Try.ntmps8
    go_wp2_with fail
    refine upon_conv_sb 9 33 5 Try.underlying9 Try.underlying33 Try.underlying5 key (by have := HS.out; simp only [maxLen]; omega) ?_
    intro c1 w1 hO1 hb1 _
    have HO1 := Lib.hid hO1.rd
    have HB1 := Lib.hid hb1
    clear hO1 hb1
    go_wp2_with fail
    refine upon_conv_sb 9 33 5 Try.underlying9 Try.underlying33 Try.underlying5 seed (by have := HS.out; simp only [maxLen]; omega) ?_
    intro c2 w2 hO2 hb2 _
    have HO2 := Lib.hid hO2.rd
    have HR1 := Lib.hid (HO1.out.keep hb2)
    have HB2 := Lib.hid (below_two HB1.out hb2)
    clear hO2 hb2
    go_wp2_with fail
    refine (HF.out w2).mono ?_
    rintro e w3 ⟨b, rfl, hb, hb3⟩
    have HP := Lib.hid (vdServer b kind HK.out _ _ key.length c1 seed.length c2 key seed rfl rfl HS.out.1 HS.out.2 w3 hb (HR1.out.keep hb3) (HO2.out.keep hb3))
    have HB3 := Lib.hid (below_two HB2.out hb3)
    clear hb hb3
    go_wp2_with fail
    refine HP.out.mono ?_
    rintro e w4 ⟨A', c', k, rfl, hk1, hrd, hb4⟩
    have hlen : ((phOut kind key (vdLabel false ++ toySum kind seed) k).take 12).length = 12 := by rw [List.length_take, phOut_length]; omega
    have HT := Lib.hid (textOk A' 12 c' _ hlen w4 hrd)
    have HB4 := Lib.hid (below_two HB3.out hb4)
    have HK1 := Lib.hid hk1
    clear hk1 hrd hb4 hlen
    go_wp2_with fail
    refine HT.out.mono ?_
    rintro e w5 ⟨rfl, rfl⟩
    go_wp2_with fail
    first | go_ret2 | go_ret
    first | exact ⟨k, rfl, HK1.out, HB4.out⟩ | exact ⟨k, ⟨rfl, rfl⟩, HK1.out, HB4.out⟩
  · go_enter Try.func8, Try.ntmps8
    go_wp2_with fail
    refine upon_conv_sb 9 33 5 Try.underlying9 Try.underlying33 Try.underlying5 key (by have := HS.out; simp only [maxLen]; omega) ?_
    intro c1 w1 hO1 hb1 _
    have HO1 := Lib.hid hO1.rd
    have HB1 := Lib.hid hb1
    clear hO1 hb1
    go_wp2_with fail
    refine upon_conv_sb 9 33 5 Try.underlying9 Try.underlying33 Try.underlying5 seed (by have := HS.out; simp only [maxLen]; omega) ?_
    intro c2 w2 hO2 hb2 _
    have HO2 := Lib.hid hO2.rd
    have HR1 := Lib.hid (HO1.out.keep hb2)
    have HB2 := Lib.hid (below_two HB1.out hb2)
    clear hO2 hb2
    go_wp2_with fail
    refine (HF.out w2).mono ?_
    rintro e w3 ⟨b, rfl, hb, hb3⟩
    have HP := Lib.hid (vdClient b kind HK.out _ _ key.length c1 seed.length c2 key seed rfl rfl HS.out.1 HS.out.2 w3 hb (HR1.out.keep hb3) (HO2.out.keep hb3))
    have HB3 := Lib.hid (below_two HB2.out hb3)
    clear hb hb3
    go_wp2_with fail
    refine HP.out.mono ?_
    rintro e w4 ⟨A', c', k, rfl, hk1, hrd, hb4⟩
    have hlen : ((phOut kind key (vdLabel true ++ toySum kind seed) k).take 12).length = 12 := by rw [List.length_take, phOut_length]; omega
    have HT := Lib.hid (textOk A' 12 c' _ hlen w4 hrd)
    have HB4 := Lib.hid (below_two HB3.out hb4)
    have HK1 := Lib.hid hk1
    clear hk1 hrd hb4 hlen
    go_wp2_with fail
    refine HT.out.mono ?_
    rintro e w5 ⟨rfl, rfl⟩
    go_wp2_with fail
    first | go_ret2 | go_ret
    first | exact ⟨k, rfl, HK1.out, HB4.out⟩ | exact ⟨k, ⟨rfl, rfl⟩, HK1.out, HB4.out⟩
end Go.Proofs.Ytohankdfnjogfaa
