/- Walks: the implementation's P_hash. -/
import Derived.Test.YtohankdfnjogfaaPh2
namespace Go.Proofs.Ytohankdfnjogfaa
open Go.RowKit Go.Cv
set_option maxRecDepth 100000
set_option linter.unusedVariables false
theorem hashFn (kind : Nat) (w : World) : Calls Try.prog 14 #[.int .i64 (kind : Nat)] w fun e w' => ∃ b, e = .returned (.func (Fn.func 24) #[] #[.pointer (some ⟨b, 0, none⟩)]) ∧ w'.cell? ⟨b, 0, none⟩ = some (.int .i64 (kind : Nat)) ∧ Below w.heap.size w w' := by
  go_enter Try.func14, Try.ntmps14
  go_wp2_with fail
  go_ret
  exact ⟨w.heap.size, rfl, by simp, below_alloc _ _⟩
theorem textOk (A : Option Addr) (n c : Nat) (l : List UInt8) (hn : l.length = n) (w : World) (hr : Rd w A (vs l)) : Calls Try.prog 12 #[.slice A n c, .nilIface] w fun e w' => e = .returned (.tuple #[.string (S l), .bool true]) ∧ w = w' := by
  have HR := Lib.hid hr
  have HN := Lib.hid hn
  clear hr hn
  go_enter Try.func12, Try.ntmps12
  go_wp2_with fail
  refine upon_conv_bs 33 9 5 Try.underlying33 Try.underlying5 Try.underlying9 l A n c HN.out HR.out ?_
  go_wp2_with fail
  first | go_ret2 | go_ret
  first | exact ⟨rfl, rfl⟩ | rfl | trivial
set_option maxHeartbeats 2000000 in
theorem implPHash (kind n : Nat) (hk : kind < 64) (h1 : 1 ≤ n) (h2 : n ≤ 2000) (key seed : List UInt8) (hs1 : key.length ≤ 50000) (hs2 : seed.length ≤ 50000) (w : World) :
    Calls Try.prog 7 #[.int .i64 (kind : Nat), .string (S key), .string (S seed), .int .i64 n] w fun e w' => ∃ k, e = .returned (.tuple #[.string (S ((phOut kind key seed k).take n)), .bool true]) ∧ n ≤ k * toySize kind ∧ Below w.heap.size w w' := by
  have HF := Lib.hid (hashFn kind)
  have HK := Lib.hid hk
  have H1 := Lib.hid h1
  have H2 := Lib.hid h2
  have HS := Lib.hid (And.intro hs1 hs2)
  clear hk h1 h2 hs1 hs2
  go_enter Try.func7, Try.ntmps7
  go_wp2_with fail
  refine upon_conv_sb 9 33 5 Try.underlying9 Try.underlying33 Try.underlying5 key (by have := HS.out; simp only [maxLen]; omega) ?_
  intro c1 w1 hO1 hb1 _
  have HO1 := Lib.hid hO1.rd
  have HB1 := Lib.hid hb1
  clear hO1 hb1
  go_wp2_with fail
  refine upon_conv_sb 9 33 5 Try.underlying9 Try.underlying33 Try.underlying5 seed (by have := HS.out; simp only [maxLen]; omega) ?_
  intro c2 w2 hO2 hb2 _
  have HO2 := Lib.hid hO2.rd
  have HR1 := Lib.hid (HO1.out.keep hb2)
  have HB2 := Lib.hid (below_two HB1.out hb2)
  clear hO2 hb2
  go_wp2_with fail
  refine (HF.out w2).mono ?_
  rintro e w3 ⟨b, rfl, hb, hb3⟩
  have HP := Lib.hid (phashOf b kind n HK.out H1.out H2.out _ _ key.length c1 seed.length c2 key seed rfl rfl HS.out.1 HS.out.2 w3 hb (HR1.out.keep hb3) (HO2.out.keep hb3))
  have HB3 := Lib.hid (below_two HB2.out hb3)
  clear hb hb3
  go_wp2_with fail
  refine HP.out.mono ?_
  rintro e w4 ⟨A', c', k, rfl, hk1, hrd, hb4⟩
  have hlen : ((phOut kind key seed k).take n).length = n := by rw [List.length_take, phOut_length]; omega
  have HT := Lib.hid (textOk A' n c' _ hlen w4 hrd)
  have HB4 := Lib.hid (below_two HB3.out hb4)
  have HK1 := Lib.hid hk1
  clear hk1 hrd hb4 hlen
  go_wp2_with fail
  refine HT.out.mono ?_
  rintro e w5 ⟨rfl, rfl⟩
  go_wp2_with fail
  first | go_ret2 | go_ret
  first | exact ⟨k, rfl, HK1.out, HB4.out⟩ | exact ⟨k, ⟨rfl, rfl⟩, HK1.out, HB4.out⟩
end Go.Proofs.Ytohankdfnjogfaa
