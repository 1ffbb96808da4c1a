/- Walks: cryptobyte's String. -/
import Derived.Test.YtgnkfpfgolhokaaDoorStrK
import Derived.Test.YtgnkfpfgolhokaaDoorRow
import Derived.Test.YtgnkfpfgolhokaaDoorBig
import Derived.Test.YtgnkfpfgolhokaaDoorU16
import Derived.Deep.RegionHeld3
import Derived.StillTailTactics
import Derived.LoopTactic
import Derived.Lib.LazyBuf
namespace Go.Proofs.YtgnkfpfgolhokaaDoor
open Go.RowKit Go.Cv
set_option maxRecDepth 100000
set_option linter.unusedVariables false
theorem strRead_no (p b : Nat) (l : List UInt8) (n : Nat) (w : World) (hs : Str w 122 p b l) (hn : l.length < n) :
    Calls Tryd.prog 78 #[.pointer (some ⟨p, 0, none⟩), .int .i64 n] w fun e w' => e = .returned (.slice none 0 0) ∧ w = w' := by
  obtain ⟨o, c, hk, hc, hr⟩ := hs
  have k0 := hk.cell 0
  simp at k0
  have hn' : (l.length : Int) < n := by omega
  clear hk hr hc
  go_enter Tryd.func78, Tryd.ntmps78
  go_wp2_with fail
  go_ret
  exact ⟨rfl, rfl⟩
theorem strRead_ok (p b : Nat) (l : List UInt8) (n : Nat) (w : World) (hs : Str w 122 p b l) (hpb : p ≠ b) (hn : (n : Int) ≤ l.length) (hm : (l.length : Int) ≤ 3000000000) :
    Calls Tryd.prog 78 #[.pointer (some ⟨p, 0, none⟩), .int .i64 n] w fun e w' =>
      ∃ o c, e = .returned (.slice (some ⟨b, o, none⟩) n c) ∧ n ≤ c ∧ Rd w' (some ⟨b, o, none⟩) (vs (l.take n)) ∧ Str w' 122 p b (l.drop n) ∧ Tch [p] w w' := by
  obtain ⟨o, c, hk, hc, hr⟩ := hs
  have k0 := hk.cell 0
  have f0 := hk.frozen 0
  simp at k0
  have e1 : ¬ ((l.length : Int) < n) := by omega
  have e2 : (0 : Int) ≤ n := by omega
  have e3 : (n : Int) ≤ c := by omega
  have e4 : (l.length : Int) ≤ c := by omega
  have e5 : ¬ ((n : Int) < 0) := by omega
  have HK := Lib.hid hk
  have HR := Lib.hid hr
  have HN : Hid (n ≤ l.length) := Lib.hid (by omega)
  clear hk hr
  go_enter Tryd.func78, Tryd.ntmps78
  go_wp2_with fail
  · have HN' := HN.out
    have e6 : l.length = n := by omega
    have hK := HK.out.set_ 0 (.slice (some ⟨b, o, none⟩) (l.length - n) 0)
    have hD : l.drop n = [] := List.drop_eq_nil_of_le (by omega)
    go_ret
    refine ⟨o, n, rfl, Nat.le_refl _, ?_, ⟨o, 0, ?_, by rw [hD]; exact Nat.le_refl _, .inl (by rw [hD]; rfl)⟩, Tch.set _ _ _ _⟩
    · rw [vs_take]; exact (HR.out.take n).tch (Tch.set _ _ _ _) (by simp; omega)
    · rw [List.length_drop]; simpa using hK
  · have hK := HK.out.set_ 0 (.slice (some ⟨b, o + n, none⟩) (l.length - n) (c - n))
    go_ret
    refine ⟨o, c, rfl, by omega, ?_, ⟨o + n, c - n, ?_, by rw [List.length_drop]; omega, ?_⟩, Tch.set _ _ _ _⟩
    · rw [vs_take]; exact (HR.out.take n).tch (Tch.set _ _ _ _) (by simp; omega)
    · rw [List.length_drop]; simpa using hK
    · rw [vs_drop]; exact (show Rd w (some ⟨b, o + n, none⟩) _ from by simpa [add_lit] using HR.out.drop n).tch (Tch.set _ _ _ _) (by simp; omega)

theorem strEmpty_any (A : Option Addr) (n c : Nat) (w : World) :
    Calls Tryd.prog 74 #[.slice A n c] w fun e w' => e = .returned (.bool (decide (n = 0))) ∧ w = w' := by
  go_enter Tryd.func74, Tryd.ntmps74
  go_wp2_with fail
  go_ret
  refine ⟨?_, rfl⟩
  show Ending.returned (.bool ((n : Int) == 0)) = _
  congr 2
  by_cases h : n = 0 <;> simp [h] <;> omega
theorem eqNil (w : World) (a : Option Addr) (n c : Nat) : (binOp .eql 25 (.slice a n c) (.slice none 0 0)).run Tryd.prog w = .ok (.bool a.isNone) w := run_eql_slice_nil w 25 5 a n c Tryd.underlying25
theorem neNil (w : World) (a : Option Addr) (n c : Nat) : (binOp .neq 25 (.slice a n c) (.slice none 0 0)).run Tryd.prog w = .ok (.bool (!a.isNone)) w := run_neq_slice_nil w 25 5 a n c Tryd.underlying25
theorem IntKind.wrap_u16 (n : Int) : IntKind.u16.wrap n = n % 65536 := by simp [IntKind.wrap, IntKind.bits, IntKind.signed]
theorem strU16_no (p b q : Nat) (l : List UInt8) (w : World) (hs : Str w 122 p b l) (hn : l.length < 2) :
    Calls Tryd.prog 71 #[.pointer (some ⟨p, 0, none⟩), .pointer (some ⟨q, 0, none⟩)] w fun e w' => e = .returned (.bool false) ∧ w = w' := by
  have hE := eqNil
  go_enter Tryd.func71, Tryd.ntmps71
  go_wp2_with fail
  refine (strRead_no p b l 2 w hs hn).mono ?_
  rintro e w1 ⟨rfl, rfl⟩
  go_wp2_with fail
  go_ret
  exact ⟨rfl, rfl⟩
theorem or16 (p q : Nat) (hp : (p : Int) < 256) (hq : (q : Int) < 256) : bits BinOp.or IntKind.u16 ((p : Int) * 256) (q : Int) = ((p * 256 + q : Nat) : Int) := by
  have e : ((p : Int) * 256) = ((p * 256 : Nat) : Int) := by omega
  rw [e, u16_or_nat (p * 256) q (by omega) (by omega), Nat.or_comm, or_mul256 q p (by omega)]
theorem strU16_ok (p b q : Nat) (l r : List UInt8) (x y : UInt8) (hl : l = x :: y :: r) (v0 : Int) (w : World) (hs : Str w 122 p b l) (hpb : p ≠ b) (hq : Blk w q 24 #[.int .u16 v0]) (hqp : q ≠ p) (hqb : q ≠ b) (hm : (l.length : Int) ≤ 3000000000) :
    Calls Tryd.prog 71 #[.pointer (some ⟨p, 0, none⟩), .pointer (some ⟨q, 0, none⟩)] w fun e w' =>
      e = .returned (.bool true) ∧ Str w' 122 p b r ∧ Blk w' q 24 #[.int .u16 ((x.toNat * 256 + y.toNat : Nat) : Int)] ∧ Tch [p, q] w w' := by
  have HC := Lib.hid (strRead_ok p b l 2 w hs hpb (by rw [hl]; simp; omega) hm)
  have hx := x.toNat_lt
  have hy := y.toNat_lt
  have e0 := or16 x.toNat y.toNat (by omega) (by omega)
  have w0 : IntKind.u16.wrap (x.toNat : Int) = x.toNat := by rw [IntKind.wrap_u16]; omega
  have w1 : IntKind.u16.wrap (y.toNat : Int) = y.toNat := by rw [IntKind.wrap_u16]; omega
  have w2 : IntKind.u16.wrap ((x.toNat : Int) * 256) = x.toNat * 256 := by rw [IntKind.wrap_u16]; omega
  have d2 : l.drop 2 = r := by rw [hl]; rfl
  have t2 : l.take 2 = [x, y] := by rw [hl]; rfl
  rw [d2, t2] at HC
  clear hl d2 t2 hs hx hy hm
  have hE := eqNil
  go_enter Tryd.func71, Tryd.ntmps71
  go_wp2_with fail
  refine HC.out.mono ?_
  rintro e w1 ⟨o, c, rfl, hc, hr, hs1, ht⟩
  have q0 := hr.byte 0 (by simp)
  have q1 := hr.byte 1 (by simp)
  have hq1 := hq.tch ht (by simp [hqp])
  clear hq hr
  simp at q0 q1
  have z0 : w1.drew.cell? ⟨b, o, none⟩ = some (.int .u8 x.toNat) := q0
  have z1 : w1.drew.cell? ⟨b, o + 1, none⟩ = some (.int .u8 y.toNat) := q1
  go_wp2_with fail
  have HS := Lib.hid (hs1.tch (Tch.drew w1) (by simp) (by simp))
  have HQ := Lib.hid hq1.drew
  have HT := Lib.hid (ht.trans ((Tch.drew w1).more (M := [p]) (by simp)))
  clear hs1 hq1 ht q0 q1
  refine wp_region_still_tail 12 (by kernel_rfl) (by kernel_rfl) ?_
  simp only [List.take_succ_cons, List.take_zero, List.drop_succ_cons, List.drop_zero]
  change wpStill _ _ (World.drew w1) (fun a => wpList _ _ _ _ a (World.drew w1)) _ _
  generalize World.drew w1 = w2 at *
  repeat still_step
  refine wpStill_nil ?_
  have hq2 := HQ.out
  have c0 := hq2.cell 0
  have g0 := hq2.frozen 0
  simp at c0
  clear hq2
  go_wp2_with fail
  go_ret
  refine ⟨rfl, HS.out.tch (Tch.set _ _ _ _) (by simp; omega) (by simp; omega), ?_, (HT.out.more (M := [p, q]) (by simp)).trans ((Tch.set w2 q 0 _).more (by simp))⟩
  simpa using HQ.out.set_ 0 (.int .u16 ((x.toNat * 256 + y.toNat : Nat) : Int))
/-- The number that bytes spell. -/
def numOf (l : List UInt8) : Nat := l.foldl (fun a b => a * 256 + b.toNat) 0
theorem strLP_no1 (k p b q : Nat) (l : List UInt8) (w : World) (hs : Str w 122 p b l) (hn : l.length < k) :
    Calls Tryd.prog 79 #[.pointer (some ⟨p, 0, none⟩), .int .i64 k, .pointer (some ⟨q, 0, none⟩)] w fun e w' => e = .returned (.bool false) ∧ w = w' := by
  have hE := eqNil
  go_enter Tryd.func79, Tryd.ntmps79
  go_wp2_with fail
  refine (strRead_no p b l k w hs hn).mono ?_
  rintro e w1 ⟨rfl, rfl⟩
  go_wp2_with fail
  go_ret
  exact ⟨rfl, rfl⟩
theorem or32_0 (x : Nat) (hx : x < 256) : bits BinOp.or IntKind.u32 0 (x : Int) = x := by
  have := u32_or_nat 0 x (by omega) (by omega)
  simpa using this
theorem or32_8 (x y : Nat) (hx : x < 256) (hy : y < 256) : bits BinOp.or IntKind.u32 ((x : Int) * 256) (y : Int) = ((x * 256 + y : Nat) : Int) := by
  have e : ((x : Int) * 256) = ((x * 256 : Nat) : Int) := by omega
  rw [e, u32_or_nat (x * 256) y (by omega) (by omega), Nat.or_comm, or_mul256 y x (by omega)]
theorem strLP1_no2 (p b q : Nat) (l r : List UInt8) (x : UInt8) (hl : l = x :: r) (w : World) (hs : Str w 122 p b l) (hpb : p ≠ b) (hn : r.length < x.toNat) (hm : (l.length : Int) ≤ 3000000000) :
    Calls Tryd.prog 79 #[.pointer (some ⟨p, 0, none⟩), .int .i64 1, .pointer (some ⟨q, 0, none⟩)] w fun e w' => e = .returned (.bool false) ∧ Tch [p] w w' := by
  have HC := Lib.hid (strRead_ok p b l 1 w hs hpb (by rw [hl]; simp; omega) hm)
  have d2 : l.drop 1 = r := by rw [hl]; rfl
  have t2 : l.take 1 = [x] := by rw [hl]; rfl
  rw [d2, t2] at HC
  have hx := x.toNat_lt
  have hz := or32_0 x.toNat hx
  have m0 : (x.toNat : Int) % 4294967296 = x.toNat := by omega
  have m3 : wrap64 (x.toNat : Int) = x.toNat := by unfold wrap64; omega
  clear hl d2 t2 hs hm hx
  have hE := eqNil
  go_enter Tryd.func79, Tryd.ntmps79
  go_wp2_with fail
  refine HC.out.mono ?_
  rintro e w1 ⟨o, c, rfl, hc, hr, hs1, ht⟩
  have q0 := hr.byte 0 (by simp)
  clear hr
  simp at q0
  have HS := Lib.hid hs1
  have HT := Lib.hid ht
  clear hs1 ht HC
  go_wp2_with fail
  refine wp_loop_rounds 2 ?_
  rw [rounds_succ]
  go_wp2_with fail
  rw [rounds_succ]
  go_wp2_with fail
  refine (strRead_no p b r x.toNat w1 HS.out hn).mono ?_
  rintro e w2 ⟨rfl, rfl⟩
  go_wp2_with fail
  go_ret
  exact ⟨rfl, HT.out⟩

theorem strLP1_ok (p b q : Nat) (l r s t : List UInt8) (x : UInt8) (hl : l = x :: r) (hst : r = s ++ t) (hx : s.length = x.toNat) (v0 : Value) (w : World) (hs : Str w 122 p b l) (hpb : p ≠ b) (hq : Blk w q 122 #[v0]) (hqp : q ≠ p) (hqb : q ≠ b) (hm : (l.length : Int) ≤ 3000000000) :
    Calls Tryd.prog 79 #[.pointer (some ⟨p, 0, none⟩), .int .i64 1, .pointer (some ⟨q, 0, none⟩)] w fun e w' =>
      e = .returned (.bool true) ∧ Str w' 122 q b s ∧ Str w' 122 p b t ∧ Tch [p, q] w w' := by
  have HC := Lib.hid (strRead_ok p b l 1 w hs hpb (by rw [hl]; simp; omega) hm)
  have d2 : l.drop 1 = r := by rw [hl]; rfl
  have t2 : l.take 1 = [x] := by rw [hl]; rfl
  rw [d2, t2] at HC
  have hx1 := x.toNat_lt
  have hz := or32_0 x.toNat hx1
  have m0 : (x.toNat : Int) % 4294967296 = x.toNat := by omega
  have m3 : wrap64 (x.toNat : Int) = x.toNat := by unfold wrap64; omega
  have hrl : r.length = x.toNat + t.length := by rw [hst, List.length_append, hx]
  have hll : l.length = r.length + 1 := by rw [hl]; simp
  have HC2 := Lib.hid (fun w h => strRead_ok p b r x.toNat w h hpb (by omega) (by omega))
  have d3 : r.drop x.toNat = t := by rw [hst, ← hx]; simp
  have t3 : r.take x.toNat = s := by rw [hst, ← hx]; simp
  rw [d3, t3] at HC2
  have HX := Lib.hid hx
  clear hl d2 t2 hs hm hx1 d3 t3 hst hll hrl hx
  have hE := eqNil
  go_enter Tryd.func79, Tryd.ntmps79
  go_wp2_with fail
  refine HC.out.mono ?_
  rintro e w1 ⟨o, c, rfl, hc, hr, hs1, ht⟩
  have q0 := hr.byte 0 (by simp)
  clear hr
  simp at q0
  have HS := Lib.hid hs1
  have HT := Lib.hid ht
  have HQ := Lib.hid (hq.tch ht (by simp [hqp]))
  clear hs1 ht HC hq
  go_wp2_with fail
  refine wp_loop_rounds 2 ?_
  rw [rounds_succ]
  go_wp2_with fail
  rw [rounds_succ]
  go_wp2_with fail
  refine (HC2.out w1 HS.out).mono ?_
  rintro e w2 ⟨o2, c2, rfl, hc2, hr2, hs2, ht2⟩
  have hq2 := HQ.out.tch ht2 (by simp [hqp])
  have c0 := hq2.cell 0
  have g0 := hq2.frozen 0
  simp at c0
  have HQ2 := Lib.hid hq2
  have HR2 := Lib.hid hr2
  have HS2 := Lib.hid hs2
  have HT2 := Lib.hid (HT.out.trans ht2)
  clear hq2 hr2 hs2 ht2 HS HT HQ
  go_wp2_with fail
  go_ret
  have hK := HQ2.out.set_ 0 (.slice (some ⟨b, o2, none⟩) x.toNat c2)
  refine ⟨rfl, ⟨o2, c2, ?_, by rw [HX.out]; exact hc2, HR2.out.tch (Tch.set _ _ _ _) (by simp; omega)⟩, HS2.out.tch (Tch.set _ _ _ _) (by simp; omega) (by simp; omega), (HT2.out.more (M := [p, q]) (by simp)).trans ((Tch.set w2 q 0 _).more (by simp))⟩
  rw [HX.out]; simpa using hK
theorem strLP2_no2 (p b q : Nat) (l r : List UInt8) (x y : UInt8) (n : Nat) (hl : l = x :: y :: r) (hxy : x.toNat * 256 + y.toNat = n) (w : World) (hs : Str w 122 p b l) (hpb : p ≠ b) (hn : r.length < n) (hm : (l.length : Int) ≤ 3000000000) :
    Calls Tryd.prog 79 #[.pointer (some ⟨p, 0, none⟩), .int .i64 2, .pointer (some ⟨q, 0, none⟩)] w fun e w' => e = .returned (.bool false) ∧ Tch [p] w w' := by
  have HC := Lib.hid (strRead_ok p b l 2 w hs hpb (by rw [hl]; simp; omega) hm)
  have d2 : l.drop 2 = r := by rw [hl]; rfl
  have t2 : l.take 2 = [x, y] := by rw [hl]; rfl
  rw [d2, t2] at HC
  have hx1 := x.toNat_lt
  have hy1 := y.toNat_lt
  have hz := or32_0 x.toNat hx1
  have m0 : (x.toNat : Int) % 4294967296 = x.toNat := by omega
  have m3 : wrap64 (x.toNat : Int) = x.toNat := by unfold wrap64; omega
  have hz2 := or32_8 x.toNat y.toNat hx1 hy1
  have m1 : (y.toNat : Int) % 4294967296 = y.toNat := by omega
  have m2 : (x.toNat : Int) * 256 % 4294967296 = x.toNat * 256 := by omega
  have m4 : wrap64 (n : Int) = n := by unfold wrap64; omega
  rw [hxy] at hz2
  clear hl d2 t2 hs hm hx1 hy1 hxy
  have hE := eqNil
  go_enter Tryd.func79, Tryd.ntmps79
  go_wp2_with fail
  refine HC.out.mono ?_
  rintro e w1 ⟨o, c, rfl, hc, hr, hs1, ht⟩
  have q0 := hr.byte 0 (by simp)
  have q1 := hr.byte 1 (by simp)
  clear hr
  simp at q0 q1
  have HS := Lib.hid hs1
  have HT := Lib.hid ht
  clear hs1 ht HC
  go_wp2_with fail
  refine wp_loop_rounds 3 ?_
  rw [rounds_succ]
  go_wp2_with fail
  rw [rounds_succ]
  go_wp2_with fail
  rw [rounds_succ]
  go_wp2_with fail
  refine (strRead_no p b r n w1 HS.out hn).mono ?_
  rintro e w2 ⟨rfl, rfl⟩
  go_wp2_with fail
  go_ret
  exact ⟨rfl, HT.out⟩

set_option maxHeartbeats 2000000 in
theorem strLP2_ok (p b q : Nat) (l r s t : List UInt8) (x y : UInt8) (n : Nat) (hl : l = x :: y :: r) (hxy : x.toNat * 256 + y.toNat = n) (hst : r = s ++ t) (hx : s.length = n) (v0 : Value) (w : World) (hs : Str w 122 p b l) (hpb : p ≠ b) (hq : Blk w q 122 #[v0]) (hqp : q ≠ p) (hqb : q ≠ b) (hm : (l.length : Int) ≤ 3000000000) :
    Calls Tryd.prog 79 #[.pointer (some ⟨p, 0, none⟩), .int .i64 2, .pointer (some ⟨q, 0, none⟩)] w fun e w' =>
      e = .returned (.bool true) ∧ Str w' 122 q b s ∧ Str w' 122 p b t ∧ Tch [p, q] w w' := by
  have HC := Lib.hid (strRead_ok p b l 2 w hs hpb (by rw [hl]; simp; omega) hm)
  have d2 : l.drop 2 = r := by rw [hl]; rfl
  have t2 : l.take 2 = [x, y] := by rw [hl]; rfl
  rw [d2, t2] at HC
  have hx1 := x.toNat_lt
  have hy1 := y.toNat_lt
  have hz := or32_0 x.toNat hx1
  have hz2 := or32_8 x.toNat y.toNat hx1 hy1
  rw [hxy] at hz2
  have hrl : r.length = n + t.length := by rw [hst, List.length_append, hx]
  have hll : l.length = r.length + 2 := by rw [hl]; simp
  have hA : (n : Int) ≤ r.length := by rw [hrl]; push_cast; exact Int.le_add_of_nonneg_right (Int.natCast_nonneg _)
  have hB : (r.length : Int) ≤ 3000000000 := by clear hz hz2 hrl hA HC hx1 hy1 hx; omega
  have HC2 := Lib.hid (fun w h => strRead_ok p b r n w h hpb hA hB)
  have d3 : r.drop n = t := by rw [hst, ← hx]; simp
  have t3 : r.take n = s := by rw [hst, ← hx]; simp
  rw [d3, t3] at HC2
  have HX := Lib.hid hx
  have hn1 : n < 65536 := by rw [← hxy]; clear hm hA hB hll hrl; omega
  have m0 : (x.toNat : Int) % 4294967296 = x.toNat := by clear hm hA hB hll hrl hz hz2; omega
  have m1 : (y.toNat : Int) % 4294967296 = y.toNat := by clear hm hA hB hll hrl hz hz2; omega
  have m2 : (x.toNat : Int) * 256 % 4294967296 = x.toNat * 256 := by clear hm hA hB hll hrl hz hz2; omega
  have m4 : wrap64 (n : Int) = n := by clear hm hA hB hll hrl hz hz2; unfold wrap64; omega
  clear hA hB hn1
  clear hl d2 t2 hs hm hx1 d3 t3 hst hll hrl hx hy1 hxy
  have hE := eqNil
  go_enter Tryd.func79, Tryd.ntmps79
  go_wp2_with fail
  refine HC.out.mono ?_
  rintro e w1 ⟨o, c, rfl, hc, hr, hs1, ht⟩
  have q0 := hr.byte 0 (by simp)
  have q1 := hr.byte 1 (by simp)
  clear hr
  simp at q0 q1
  have HS := Lib.hid hs1
  have HT := Lib.hid ht
  have HQ := Lib.hid (hq.tch ht (by simp [hqp]))
  clear hs1 ht HC hq
  go_wp2_with fail
  refine wp_loop_rounds 3 ?_
  rw [rounds_succ]
  go_wp2_with fail
  rw [rounds_succ]
  go_wp2_with fail
  rw [rounds_succ]
  go_wp2_with fail
  refine (HC2.out w1 HS.out).mono ?_
  rintro e w2 ⟨o2, c2, rfl, hc2, hr2, hs2, ht2⟩
  have hq2 := HQ.out.tch ht2 (by simp [hqp])
  have c0 := hq2.cell 0
  have g0 := hq2.frozen 0
  simp at c0
  have HQ2 := Lib.hid hq2
  have HR2 := Lib.hid hr2
  have HS2 := Lib.hid hs2
  have HT2 := Lib.hid (HT.out.trans ht2)
  clear hq2 hr2 hs2 ht2 HS HT HQ
  go_wp2_with fail
  go_ret
  have hK := HQ2.out.set_ 0 (.slice (some ⟨b, o2, none⟩) n c2)
  refine ⟨rfl, ⟨o2, c2, ?_, by rw [HX.out]; exact hc2, HR2.out.tch (Tch.set _ _ _ _) (by simp; omega)⟩, HS2.out.tch (Tch.set _ _ _ _) (by simp; omega) (by simp; omega), (HT2.out.more (M := [p, q]) (by simp)).trans ((Tch.set w2 q 0 _).more (by simp))⟩
  rw [HX.out]; simpa using hK
end Go.Proofs.YtgnkfpfgolhokaaDoor
