/- Walks: cryptobyte's String, the methods that call readLengthPrefixed; CopyBytes; Skip. -/
import Derived.Test.YtgnkfpfgolhokaaDoorStr
namespace Go.Proofs.YtgnkfpfgolhokaaDoor
open Go.RowKit Go.Cv
set_option maxRecDepth 100000
set_option linter.unusedVariables false
theorem str16_ok (p b q : Nat) (l r s t : List UInt8) (x y : UInt8) (n : Nat) (hl : l = x :: y :: r) (hxy : x.toNat * 256 + y.toNat = n) (hst : r = s ++ t) (hx : s.length = n) (v0 : Value) (w : World) (hs : Str w 122 p b l) (hpb : p ≠ b) (hq : Blk w q 122 #[v0]) (hqp : q ≠ p) (hqb : q ≠ b) (hm : (l.length : Int) ≤ 3000000000) :
    Calls Tryd.prog 72 #[.pointer (some ⟨p, 0, none⟩), .pointer (some ⟨q, 0, none⟩)] w fun e w' =>
      e = .returned (.bool true) ∧ Str w' 122 q b s ∧ Str w' 122 p b t ∧ Tch [p, q] w w' := by
  have HC := Lib.hid (strLP2_ok p b q l r s t x y n hl hxy hst hx v0 w hs hpb hq hqp hqb hm)
  clear hl hxy hst hx hs hq hm
  go_enter Tryd.func72, Tryd.ntmps72
  go_wp2_with fail
  refine HC.out.mono ?_
  rintro e w1 ⟨rfl, h1, h2, h3⟩
  go_wp2_with fail
  go_ret
  exact ⟨rfl, h1, h2, h3⟩
/-- A length of two bytes, and too few bytes for it. -/
def Short2 (l : List UInt8) : Prop := l.length < 2 ∨ ∃ x y r, l = x :: y :: r ∧ r.length < x.toNat * 256 + y.toNat
def Short1 (l : List UInt8) : Prop := l.length < 1 ∨ ∃ x r, l = x :: r ∧ r.length < x.toNat
theorem str16_no (p b q : Nat) (l : List UInt8) (hn : Short2 l) (w : World) (hs : Str w 122 p b l) (hpb : p ≠ b) (hm : (l.length : Int) ≤ 3000000000) :
    Calls Tryd.prog 72 #[.pointer (some ⟨p, 0, none⟩), .pointer (some ⟨q, 0, none⟩)] w fun e w' => e = .returned (.bool false) ∧ Tch [p] w w' := by
  have HC : Hid (Calls Tryd.prog 79 #[.pointer (some ⟨p, 0, none⟩), .int .i64 2, .pointer (some ⟨q, 0, none⟩)] w fun e w' => e = .returned (.bool false) ∧ Tch [p] w w') := Lib.hid (by
    rcases hn with h | ⟨x, y, r, hl, h⟩
    · exact (strLP_no1 2 p b q l w hs h).mono (by rintro e w' ⟨rfl, rfl⟩; exact ⟨rfl, Tch.refl _ _⟩)
    · exact strLP2_no2 p b q l r x y _ hl rfl w hs hpb h hm)
  clear hn hs hm
  go_enter Tryd.func72, Tryd.ntmps72
  go_wp2_with fail
  refine HC.out.mono ?_
  rintro e w1 ⟨rfl, h1⟩
  go_wp2_with fail
  go_ret
  exact ⟨rfl, h1⟩
theorem str8_ok (p b q : Nat) (l r s t : List UInt8) (x : UInt8) (hl : l = x :: r) (hst : r = s ++ t) (hx : s.length = x.toNat) (v0 : Value) (w : World) (hs : Str w 122 p b l) (hpb : p ≠ b) (hq : Blk w q 122 #[v0]) (hqp : q ≠ p) (hqb : q ≠ b) (hm : (l.length : Int) ≤ 3000000000) :
    Calls Tryd.prog 73 #[.pointer (some ⟨p, 0, none⟩), .pointer (some ⟨q, 0, none⟩)] w fun e w' =>
      e = .returned (.bool true) ∧ Str w' 122 q b s ∧ Str w' 122 p b t ∧ Tch [p, q] w w' := by
  have HC := Lib.hid (strLP1_ok p b q l r s t x hl hst hx v0 w hs hpb hq hqp hqb hm)
  clear hl hst hx hs hq hm
  go_enter Tryd.func73, Tryd.ntmps73
  go_wp2_with fail
  refine HC.out.mono ?_
  rintro e w1 ⟨rfl, h1, h2, h3⟩
  go_wp2_with fail
  go_ret
  exact ⟨rfl, h1, h2, h3⟩
theorem str8_no (p b q : Nat) (l : List UInt8) (hn : Short1 l) (w : World) (hs : Str w 122 p b l) (hpb : p ≠ b) (hm : (l.length : Int) ≤ 3000000000) :
    Calls Tryd.prog 73 #[.pointer (some ⟨p, 0, none⟩), .pointer (some ⟨q, 0, none⟩)] w fun e w' => e = .returned (.bool false) ∧ Tch [p] w w' := by
  have HC : Hid (Calls Tryd.prog 79 #[.pointer (some ⟨p, 0, none⟩), .int .i64 1, .pointer (some ⟨q, 0, none⟩)] w fun e w' => e = .returned (.bool false) ∧ Tch [p] w w') := Lib.hid (by
    rcases hn with h | ⟨x, r, hl, h⟩
    · exact (strLP_no1 1 p b q l w hs h).mono (by rintro e w' ⟨rfl, rfl⟩; exact ⟨rfl, Tch.refl _ _⟩)
    · exact strLP1_no2 p b q l r x hl w hs hpb h hm)
  clear hn hs hm
  go_enter Tryd.func73, Tryd.ntmps73
  go_wp2_with fail
  refine HC.out.mono ?_
  rintro e w1 ⟨rfl, h1⟩
  go_wp2_with fail
  go_ret
  exact ⟨rfl, h1⟩
end Go.Proofs.YtgnkfpfgolhokaaDoor
