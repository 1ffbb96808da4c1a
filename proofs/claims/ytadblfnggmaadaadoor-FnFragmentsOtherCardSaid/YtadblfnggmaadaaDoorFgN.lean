/- Walks: numbers read and laid; headers of handshake messages and of records. -/
import Derived.Test.YtadblfnggmaadaaDoorBig
import Derived.Test.YtadblfnggmaadaaDoorU16
import Derived.Test.YtadblfnggmaadaaDoorRgA
import Derived.Deep.RegionWith
import Derived.Deep.RegionHeldLaw
import Derived.StillTailTactics
import Derived.Outline
import Derived.BigQuiet
namespace Go.Proofs.YtadblfnggmaadaaDoor
open Go.RowKit Go.Cv
set_option maxRecDepth 100000
set_option linter.unusedVariables false
theorem or_shl (i a b : Nat) (h : a < 2 ^ i) : (b * 2 ^ i) ||| a = b * 2 ^ i + a := by
  rw [← Nat.shiftLeft_eq, Nat.shiftLeft_add_eq_or_of_lt h]
theorem or32r (x y z t : Nat) (hx : x < 256) (hy : y < 256) (hz : z < 256) (ht : t < 256) :
    bits BinOp.or IntKind.u32 (bits BinOp.or IntKind.u32 (bits BinOp.or IntKind.u32 (t : Int) ((z : Int) * 256)) ((y : Int) * 65536)) ((x : Int) * 16777216) = ((x * 16777216 + y * 65536 + z * 256 + t : Nat) : Int) := by
  have e1 : ((x : Int) * 16777216) = ((x * 16777216 : Nat) : Int) := by omega
  have e2 : ((y : Int) * 65536) = ((y * 65536 : Nat) : Int) := by omega
  have e3 : ((z : Int) * 256) = ((z * 256 : Nat) : Int) := by omega
  have o1 : t ||| z * 256 = z * 256 + t := by rw [Nat.or_comm]; exact or_shl 8 t z (by omega)
  have o2 : (z * 256 + t) ||| y * 65536 = y * 65536 + (z * 256 + t) := by rw [Nat.or_comm]; exact or_shl 16 (z * 256 + t) y (by omega)
  have o3 : (y * 65536 + (z * 256 + t)) ||| x * 16777216 = x * 16777216 + (y * 65536 + (z * 256 + t)) := by rw [Nat.or_comm]; exact or_shl 24 _ x (by omega)
  rw [e1, e2, e3, u32_or_nat _ _ (by omega) (by omega), o1, u32_or_nat _ _ (by omega) (by omega), o2, u32_or_nat _ _ (by omega) (by omega), o3]
  have e : x * 16777216 + (y * 65536 + (z * 256 + t)) = x * 16777216 + y * 65536 + z * 256 + t := by omega
  rw [e]
theorem u32_get (b o n c : Nat) (x y z t : UInt8) (N : Int) (hN : N = ((x.toNat * 16777216 + y.toNat * 65536 + z.toNat * 256 + t.toNat : Nat) : Int)) (hn : (4 : Int) ≤ n) (w : World) (hr : Rd w (some ⟨b, o, none⟩) (vs [x, y, z, t])) :
    Calls Tryd.prog 55 #[.agg #[], .slice (some ⟨b, o, none⟩) n c] w fun e w' => e = .returned (.int .u32 N) ∧ Below w.heap.size w w' := by
  have i0 : (0 : Int) < n := by omega
  have i1 : (1 : Int) < n := by omega
  have i2 : (2 : Int) < n := by omega
  have i3 : (3 : Int) < n := by omega
  have h0 := hr.byte 0 (by simp)
  have h1 := hr.byte 1 (by simp)
  have h2 := hr.byte 2 (by simp)
  have h3 := hr.byte 3 (by simp)
  have hb0 := block_lt h0
  simp at h0 h1 h2 h3 hb0
  have HE := Lib.hid (or32r x.toNat y.toNat z.toNat t.toNat x.toNat_lt y.toNat_lt z.toNat_lt t.toNat_lt)
  rw [← hN] at HE
  clear hN hr
  go_enter Tryd.func55, Tryd.ntmps55
  go_wp2_with fail
  go_quiet (fail)
  go_wp2_with fail
  go_ret
  refine ⟨?_, (below_alloc w _).trans ⟨rfl, rfl, rfl, Nat.le_refl _, fun _ _ => rfl⟩⟩
  have hx := x.toNat_lt
  have hy := y.toNat_lt
  have hz := z.toNat_lt
  have ht := t.toNat_lt
  clear h0 h1 h2 h3
  have m0 : (x.toNat : Int) % 4294967296 = x.toNat := by omega
  have m1 : (y.toNat : Int) % 4294967296 = y.toNat := by omega
  have m2 : (z.toNat : Int) % 4294967296 = z.toNat := by omega
  have m3 : (t.toNat : Int) % 4294967296 = t.toNat := by omega
  have m4 : (x.toNat : Int) * 16777216 % 4294967296 = x.toNat * 16777216 := by omega
  have m5 : (y.toNat : Int) * 65536 % 4294967296 = y.toNat * 65536 := by omega
  have m6 : (z.toNat : Int) * 256 % 4294967296 = z.toNat * 256 := by omega
  show Ending.returned (.int .u32 (bits BinOp.or IntKind.u32 (bits BinOp.or IntKind.u32 (bits BinOp.or IntKind.u32 ((t.toNat : Int) % 4294967296) ((z.toNat : Int) % 4294967296 * 256 % 4294967296)) ((y.toNat : Int) % 4294967296 * 65536 % 4294967296)) ((x.toNat : Int) % 4294967296 * 16777216 % 4294967296))) = _
  rw [m0, m1, m2, m3, m4, m5, m6, HE.out]
theorem u24_get (A : Option Addr) (n c : Nat) (y z t : UInt8) (N : Int) (hN : N = ((y.toNat * 65536 + z.toNat * 256 + t.toNat : Nat) : Int)) (hn : (3 : Int) ≤ n) (w : World) (hr : Rd w A (vs [y, z, t])) :
    Calls Tryd.prog 51 #[.slice A n c] w fun e w' => e = .returned (.int .u32 N) ∧ Below w.heap.size w w' := by
  have HU := Lib.hid (fun b w h => u32_get b 0 4 4 0 y z t N (by rw [hN]; simp) (by omega) w h)
  clear hN
  go_enter Tryd.func51, Tryd.ntmps51
  go_wp2_with fail
  refine upon_make 65 5 (.int .u8 0) 1 Tryd.underlying65 u8info rfl 4 4 rfl rfl (Nat.le_refl _) (by omega) (by simp only [maxLen]; omega) ?_
  intro w1 hown hb hsz
  have hr1 := hr.keep hb
  clear hr
  go_wp2_with (with_reducible refine Held.copy ?_)
  refine held_copy_part rfl (.tmp 9) (.tmp 10) 65 65 rfl w.heap.size 5 Tryd.underlying65 (by kernel_rfl) (k := 1) (by omega) rfl rfl hown (ys := vs [y, z, t]) (by rw [vs_length]; show 3 = Nat.min n 3; exact (Nat.min_eq_right (by omega)).symm) (by simp [vs]) (by simp [vs]) hr1 (vs_one _) ?_
  intro w2 hO hg
  have hR : Rd w2 (some ⟨w.heap.size, 0, none⟩) (vs [0, y, z, t]) := by simpa [vs, List.replicate] using hO.rd
  have hb2 : Below w.heap.size w w2 := below_of_grown hb hg hb.size (Nat.le_refl _)
  clear hown hO hr1 hg
  go_wp2_with fail
  refine (HU.out w.heap.size w2 hR).mono ?_
  rintro e w3 ⟨rfl, hb3⟩
  go_wp2_with fail
  go_ret
  exact ⟨rfl, below_two hb2 hb3⟩
/-- PutUint32 lays the four bytes of its number. -/
theorem u32_put (B b n c : Nat) (v : Nat) (xs : List Value) (w : World) (hown : Own w B 1 (some ⟨b, 0, none⟩) 4 4 xs) :
    Calls Tryd.prog 56 #[.agg #[], .slice (some ⟨b, 0, none⟩) 4 4, .int .u32 v] w fun e w' =>
      e = .returned (.tuple #[]) ∧ Own w' B 1 (some ⟨b, 0, none⟩) 4 4 [.int .u8 ((v : Int) / 16777216 % 256), .int .u8 ((v : Int) / 65536 % 256), .int .u8 ((v : Int) / 256 % 256), .int .u8 ((v : Int) % 256)] ∧ w.grownBy w' (some b) := by
  obtain ⟨a0, a1, a2, a3, rfl⟩ : ∃ a0 a1 a2 a3, xs = [a0, a1, a2, a3] := by
    have h := hown.1
    match xs, h with
    | [a0, a1, a2, a3], _ => exact ⟨_, _, _, _, rfl⟩
  obtain ⟨v0, _, hc0, hf0⟩ := hown.at_ 0 (by omega)
  obtain ⟨v1, _, hc1, hf1⟩ := hown.at_ 1 (by omega)
  obtain ⟨v2, _, hc2, hf2⟩ := hown.at_ 2 (by omega)
  obtain ⟨v3, _, hc3, hf3⟩ := hown.at_ 3 (by omega)
  have hb0 := block_lt hc0
  simp at hc0 hc1 hc2 hc3 hf0 hf1 hf2 hf3 hb0
  have HO := Lib.hid hown
  clear hown
  go_enter Tryd.func56, Tryd.ntmps56
  go_wp2_with fail
  go_end0
  have hs := (((HO.out.set 0 (by omega) (.int .u8 ((v : Int) / 16777216 % 256))).set 1 (by omega) (.int .u8 ((v : Int) / 65536 % 256))).set 2 (by omega) (.int .u8 ((v : Int) / 256 % 256))).set 3 (by omega) (.int .u8 ((v : Int) % 256))
  have hT := (((Tch.set w b 0 (.int .u8 ((v : Int) / 16777216 % 256))).trans (Tch.set _ b 1 (.int .u8 ((v : Int) / 65536 % 256)))).trans (Tch.set _ b 2 (.int .u8 ((v : Int) / 256 % 256)))).trans (Tch.set _ b 3 (.int .u8 ((v : Int) % 256)))
  have hs2 := hs.keep (below_alloc _ (.cells #[] 121))
  simp at hs2
  exact ⟨rfl, hs2, (hT.then (Tch.alloc _ _) (by simp)).toGrown⟩
theorem u24_put (B b p k m c n c' : Nat) (v : Nat) (xs : List Value) (w : World) (hown : Own w B 1 (some ⟨b, 0, none⟩) n c xs) (hp : p = 0 + k) (hk : k + 3 ≤ n) (hm : 3 ≤ m) :
    Calls Tryd.prog 52 #[.slice (some ⟨b, p, none⟩) m c', .int .u32 v] w fun e w' =>
      e = .returned (.tuple #[]) ∧ Own w' B 1 (some ⟨b, 0, none⟩) n c (xs.take k ++ ([.int .u8 ((v : Int) / 65536 % 256), .int .u8 ((v : Int) / 256 % 256), .int .u8 ((v : Int) % 256)] ++ xs.drop (k + 3))) ∧ w.grownBy w' (some b) := by
  go_enter Tryd.func52, Tryd.ntmps52
  have HO := Lib.hid hown
  have hbl : b < w.heap.size := by
    obtain ⟨v0, _, hc0, hf0⟩ := hown.at_ 0 (by omega)
    exact block_lt hc0
  clear hown
  go_wp2_with fail
  refine upon_make 65 5 (.int .u8 0) 1 Tryd.underlying65 u8info rfl 4 4 rfl rfl (Nat.le_refl _) (by omega) (by simp only [maxLen]; omega) ?_
  intro w1 hown1 hb1 hsz1
  go_wp2_with fail
  refine (u32_put w.heap.size w.heap.size 4 4 v _ w1 hown1).mono ?_
  rintro e w2 ⟨rfl, hO2, hg2⟩
  have T2 : Tch [] w w2 := (Tch.below hb1 []).then (Tch.grown hg2) (by simp)
  have hO := HO.out.mono (w' := w2) (fun a ha hlt => by
    simp at ha
    have hh := T2.block a.block hlt (by simp)
    exact ⟨cell_of_heap hh, by simp only [World.frozen?, hh]⟩)
  have hR : Rd w2 (some ⟨w.heap.size, 1, none⟩) [.int .u8 ((v : Int) / 65536 % 256), .int .u8 ((v : Int) / 256 % 256), .int .u8 ((v : Int) % 256)] := by
    have := hO2.rd.drop 1
    simpa [add_lit] using this
  clear hown1 hb1 hO2 hg2
  go_wp2_with (with_reducible refine Held.copy ?_)
  refine held_copy_part rfl (.tmp 10) (.tmp 12) 65 65 rfl B 5 Tryd.underlying65 (by kernel_rfl) (k := k) (p := k) (by omega) rfl rfl hO (ys := [.int .u8 ((v : Int) / 65536 % 256), .int .u8 ((v : Int) / 256 % 256), .int .u8 ((v : Int) % 256)]) (by show 3 = Nat.min 3 m; exact (Nat.min_eq_left hm).symm) (by simpa using hk) (by simp) hR (by intro v h; simp at h; rcases h with rfl | rfl | rfl <;> rfl) ?_
  intro w3 hO3 hg3
  have HO3 := Lib.hid hO3
  clear hO hR hO3
  go_wp2_with fail
  go_end0
  exact ⟨rfl, HO3.out, ((T2.more (M := [b]) (by simp)).trans (Tch.grown hg3)).toGrown⟩
theorem or64_step (i a b m : Nat) (M : Int) (hM : M = (m : Int)) (hm : 2 ^ i = m) (ha : a < m) (hb : b * m + a < 18446744073709551616) : bits BinOp.or IntKind.u64 (a : Int) ((b : Int) * M) = ((b * m + a : Nat) : Int) := by
  subst hM
  have e : ((b : Int) * (m : Int)) = ((b * m : Nat) : Int) := by simp
  have hx : a ||| b * m = b * m + a := by
    rw [Nat.or_comm, ← hm, ← Nat.shiftLeft_eq, Nat.shiftLeft_add_eq_or_of_lt (by rw [hm]; exact ha)]
  rw [e, u64_or_nat _ _ (by omega) (by omega), hx]
theorem or64r (x y a b c d e f : Nat) (hx : x < 256) (hy : y < 256) (ha : a < 256) (hb : b < 256) (hc : c < 256) (hd : d < 256) (he : e < 256) (hf : f < 256) (N : Nat) (hN : N = x * 72057594037927936 + (y * 281474976710656 + (a * 1099511627776 + (b * 4294967296 + (c * 16777216 + (d * 65536 + (e * 256 + f))))))) :
    bits BinOp.or IntKind.u64 (bits BinOp.or IntKind.u64 (bits BinOp.or IntKind.u64 (bits BinOp.or IntKind.u64 (bits BinOp.or IntKind.u64 (bits BinOp.or IntKind.u64 (bits BinOp.or IntKind.u64 (f : Int) ((e : Int) * 256)) ((d : Int) * 65536)) ((c : Int) * 16777216)) ((b : Int) * 4294967296)) ((a : Int) * 1099511627776)) ((y : Int) * 281474976710656)) ((x : Int) * 72057594037927936) = (N : Int) := by
  rw [or64_step 8 f e 256 256 rfl rfl (by omega) (by omega), or64_step 16 _ d 65536 65536 rfl rfl (by omega) (by omega), or64_step 24 _ c 16777216 16777216 rfl rfl (by omega) (by omega), or64_step 32 _ b 4294967296 4294967296 rfl rfl (by omega) (by omega), or64_step 40 _ a 1099511627776 1099511627776 rfl rfl (by omega) (by omega), or64_step 48 _ y 281474976710656 281474976710656 rfl rfl (by omega) (by omega), or64_step 56 _ x 72057594037927936 72057594037927936 rfl rfl (by omega) (by omega), hN]
theorem wu (x : UInt8) (m : Int) (h0 : 0 ≤ m) (h : m ≤ 72057594037927936) : IntKind.u64.wrap ((x.toNat : Int) * m) = (x.toNat : Int) * m := by
  have hx : (x.toNat : Int) ≤ 255 := by have := x.toNat_lt; omega
  have h2 : (x.toNat : Int) * m ≤ 255 * m := Int.mul_le_mul_of_nonneg_right hx h0
  have h3 : 0 ≤ (x.toNat : Int) * m := Int.mul_nonneg (by omega) h0
  rw [IntKind.wrap_u64]
  omega
theorem u64_get (b o n c : Nat) (x y a1 a2 a3 a4 a5 a6 : UInt8) (N : Nat) (hN : N = x.toNat * 72057594037927936 + (y.toNat * 281474976710656 + (a1.toNat * 1099511627776 + (a2.toNat * 4294967296 + (a3.toNat * 16777216 + (a4.toNat * 65536 + (a5.toNat * 256 + a6.toNat))))))) (hn : (8 : Int) ≤ n) (w : World) (hr : Rd w (some ⟨b, o, none⟩) (vs [x, y, a1, a2, a3, a4, a5, a6])) :
    Calls Tryd.prog 49 #[.agg #[], .slice (some ⟨b, o, none⟩) n c] w fun e w' => e = .returned (.int .u64 N) ∧ Below w.heap.size w w' := by
  have i0 : (0 : Int) < n := by omega
  have i1 : (1 : Int) < n := by omega
  have i2 : (2 : Int) < n := by omega
  have i3 : (3 : Int) < n := by omega
  have i4 : (4 : Int) < n := by omega
  have i5 : (5 : Int) < n := by omega
  have i6 : (6 : Int) < n := by omega
  have i7 : (7 : Int) < n := by omega
  have h0 := hr.byte 0 (by simp)
  have h1 := hr.byte 1 (by simp)
  have h2 := hr.byte 2 (by simp)
  have h3 := hr.byte 3 (by simp)
  have h4 := hr.byte 4 (by simp)
  have h5 := hr.byte 5 (by simp)
  have h6 := hr.byte 6 (by simp)
  have h7 := hr.byte 7 (by simp)
  have hb0 := block_lt h0
  simp at h0 h1 h2 h3 h4 h5 h6 h7 hb0
  have HE := Lib.hid (or64r x.toNat y.toNat a1.toNat a2.toNat a3.toNat a4.toNat a5.toNat a6.toNat x.toNat_lt y.toNat_lt a1.toNat_lt a2.toNat_lt a3.toNat_lt a4.toNat_lt a5.toNat_lt a6.toNat_lt N hN)
  have p0 := wu x 1 (by omega) (by omega)
  have p1 := wu y 1 (by omega) (by omega)
  have p2 := wu a1 1 (by omega) (by omega)
  have p3 := wu a2 1 (by omega) (by omega)
  have p4 := wu a3 1 (by omega) (by omega)
  have p5 := wu a4 1 (by omega) (by omega)
  have p6 := wu a5 1 (by omega) (by omega)
  have p7 := wu a6 1 (by omega) (by omega)
  rw [Int.mul_one] at p0 p1 p2 p3 p4 p5 p6 p7
  have r0 := wu x 72057594037927936 (by omega) (by omega)
  have r1 := wu y 281474976710656 (by omega) (by omega)
  have r2 := wu a1 1099511627776 (by omega) (by omega)
  have r3 := wu a2 4294967296 (by omega) (by omega)
  have r4 := wu a3 16777216 (by omega) (by omega)
  have r5 := wu a4 65536 (by omega) (by omega)
  have r6 := wu a5 256 (by omega) (by omega)
  clear hN hr
  go_enter Tryd.func49, Tryd.ntmps49
  go_wp2_with fail
  go_quiet (fail)
  go_wp2_with fail
  go_ret
  refine ⟨?_, (below_alloc w _).trans ⟨rfl, rfl, rfl, Nat.le_refl _, fun _ _ => rfl⟩⟩
  exact congrArg (fun z => Ending.returned (Value.int .u64 z)) HE.out
theorem Rd.part {w : World} {b o : Nat} {l : List UInt8} (h : Rd w (some ⟨b, o, none⟩) (vs l)) (k m : Nat) : Rd w (some ⟨b, o + k, none⟩) (vs ((l.drop k).take m)) := by
  rw [vs_take, vs_drop]
  exact (show Rd w (some ⟨b, o + k, none⟩) _ from by simpa [add_lit] using h.drop k).take m
set_option maxHeartbeats 1000000 in
theorem hand_ok (g b o n c : Nat) (b0 b1 b2 b3 b4 b5 b6 b7 b8 b9 b10 b11 : UInt8) (N1 N3 N4 : Int) (N2 : Nat) (hN1 : N1 = ((b1.toNat * 65536 + b2.toNat * 256 + b3.toNat : Nat) : Int)) (hN2 : b4.toNat * 256 + b5.toNat = N2) (hN3 : N3 = ((b6.toNat * 65536 + b7.toNat * 256 + b8.toNat : Nat) : Int)) (hN4 : N4 = ((b9.toNat * 65536 + b10.toNat * 256 + b11.toNat : Nat) : Int))
    (r : List UInt8) (l : List UInt8) (hl : l = b0 :: b1 :: b2 :: b3 :: b4 :: b5 :: b6 :: b7 :: b8 :: b9 :: b10 :: b11 :: r) (hn : n = l.length) (hnn : (12 : Int) ≤ n) (hmm : (n : Int) ≤ 3000000000) (hnc : (n : Int) ≤ c) (x0 x1 x2 x3 x4 : Value) (w : World)
    (hk : Blk w g 90 #[x0, x1, x2, x3, x4]) (hr : Rd w (some ⟨b, o, none⟩) (vs l)) (hgb : g ≠ b) :
    Calls Tryd.prog 42 #[.pointer (some ⟨g, 0, none⟩), .slice (some ⟨b, o, none⟩) n c] w fun e w' =>
      e = .returned .nilIface ∧ Blk w' g 90 #[.int .u8 b0.toNat, .int .u32 N1, .int .u16 N2, .int .u32 N3, .int .u32 N4] ∧ w.grownBy w' (some g) := by
  have hgs := hk.lt
  have h0 := hr.byte 0 (by rw [hl]; simp)
  rw [hl] at h0
  have hbs := block_lt h0
  have k0 := hk.cell 0
  have f0 := hk.frozen 0
  simp at h0 k0 hbs
  have i0 : (0 : Int) < n := by omega
  have i1 : (1 : Int) ≤ n := by omega
  have i4 : (4 : Int) ≤ n := by omega
  have i6 : (6 : Int) ≤ n := by omega
  have i9 : (9 : Int) ≤ n := by omega
  have e1 : ¬ c = 1 := by omega
  have e4 : ¬ c = 4 := by omega
  have e6 : ¬ c = 6 := by omega
  have e9 : ¬ c = 9 := by omega
  have i12 : ¬ ((n : Int) < 12) := by omega
  have R1 : Rd w (some ⟨b, o + 1, none⟩) (vs [b1, b2, b3]) := by have := Rd.part hr 1 3; rw [hl] at this; simpa using this
  have R4 : Rd w (some ⟨b, o + 4, none⟩) (vs [b4, b5]) := by have := Rd.part hr 4 2; rw [hl] at this; simpa using this
  have R6 : Rd w (some ⟨b, o + 6, none⟩) (vs [b6, b7, b8]) := by have := Rd.part hr 6 3; rw [hl] at this; simpa using this
  have R9 : Rd w (some ⟨b, o + 9, none⟩) (vs [b9, b10, b11]) := by have := Rd.part hr 9 3; rw [hl] at this; simpa using this
  have G1 := Lib.hid (fun w h => u24_get (some ⟨b, o + 1, none⟩) (n - 1) (c - 1) b1 b2 b3 N1 hN1 (by omega) w h)
  have G2 := Lib.hid (fun w h0 h1 => u16_any b (o + 4) (n - 4) (c - 4) b4.toNat b5.toNat (by have := b4.toNat_lt; omega) (by have := b5.toNat_lt; omega) (by omega) w h0 h1)
  rw [hN2] at G2
  have G3 := Lib.hid (fun w h => u24_get (some ⟨b, o + 6, none⟩) (n - 6) (c - 6) b6 b7 b8 N3 hN3 (by omega) w h)
  have G4 := Lib.hid (fun w h => u24_get (some ⟨b, o + 9, none⟩) (n - 9) (c - 9) b9 b10 b11 N4 hN4 (by omega) w h)
  have HK := Lib.hid hk
  have HR1 := Lib.hid R1
  have HR4 := Lib.hid R4
  have HR6 := Lib.hid R6
  have HR9 := Lib.hid R9
  clear hl hn hN1 hN2 hN3 hN4 hk hr R1 R4 R6 R9
  go_enter Tryd.func42, Tryd.ntmps42
  go_wp2_with fail
  have T0 := Tch.set w g 0 (.int .u8 b0.toNat)
  refine (G1.out _ (HR1.out.tch T0 (by simp; omega))).mono ?_
  rintro e w1 ⟨rfl, hb1⟩
  have T1 := T0.then (Tch.below hb1 []) (by simp)
  have hk1 := (HK.out.set_ 0 (.int .u8 b0.toNat)).keep hb1
  have c1 := hk1.cell 1
  have f1 := hk1.frozen 1
  simp at c1
  have L1 := T1.size
  clear hb1 T0 k0 f0 h0
  go_wp2_with fail
  have T2 := T1.trans (Tch.set w1 g 1 (.int .u32 N1))
  have hk2 := hk1.set_ 1 (.int .u32 N1)
  simp at hk2
  clear T1 hk1 c1 f1
  generalize hW : w1.setCell ⟨g, 1, none⟩ (.int .u32 N1) = w2 at *
  clear hW
  have T2d := T2.then (Tch.drew w2) (by simp)
  have q4 : w2.drew.cell? ⟨b, o + 4, none⟩ = some (.int .u8 b4.toNat) := by
    have := (HR4.out.tch T2d (by simp; omega)).byte 0 (by simp)
    simpa using this
  have q5 : w2.drew.cell? ⟨b, o + 4 + 1, none⟩ = some (.int .u8 b5.toNat) := by
    have := (HR4.out.tch T2d (by simp; omega)).byte 1 (by simp)
    simpa using this
  have HK2 : Hid (Blk w2.drew g 90 #[.int .u8 b0.toNat, .int .u32 N1, x2, x3, x4]) := hk2
  have HQ4 := Lib.hid q4
  have HQ5 := Lib.hid q5
  have HT2 := Lib.hid T2d
  clear q4 q5 T2 hk2 T2d
  first
    | (go_region_with (first
        | (go_at_call 48; refine (G2.out _ HQ4.out HQ5.out).mono ?_; rintro e w3 ⟨rfl, hb3⟩; have hk3 := HK2.out.keep hb3; have c3 := hk3.cell 2; have f3 := hk3.frozen 2; simp at c3; replace hk3 := Lib.hid hk3)))
    | fail "no"
  all_goals
    have T3 := (HT2.out.then (Tch.below hb3 []) (by simp)).trans (Tch.set w3 g 2 (.int .u16 N2))
    have hk4 := hk3.out.set_ 2 (.int .u16 N2)
    simp at hk4
    clear HK2 HQ4 HQ5 HT2 hb3 hk3 c3 f3
    generalize hW : w3.setCell ⟨g, 2, none⟩ (.int .u16 N2) = w4 at *
    clear hW
    have HR6' := Lib.hid (HR6.out.tch T3 (by simp; omega))
    have HR9' := Lib.hid (HR9.out.tch T3 (by simp; omega))
    have HT3 := Lib.hid T3
    have HK4 := Lib.hid hk4
    clear hk4 T3
    go_wp2_with fail
    refine (G3.out _ HR6'.out).mono ?_
    rintro e w5 ⟨rfl, hb5⟩
    have hk5 := HK4.out.keep hb5
    have c5 := hk5.cell 3
    have f5 := hk5.frozen 3
    simp at c5
    have HK5 := Lib.hid hk5
    have HR9'' := Lib.hid (HR9'.out.keep hb5)
    have HT5 := Lib.hid (HT3.out.then (Tch.below hb5 []) (by simp))
    clear hk5 hb5 HK4 HR6' HR9' HT3
    go_wp2_with fail
    have T6 := Tch.set w5 g 3 (.int .u32 N3)
    refine (G4.out _ (HR9''.out.tch T6 (by simp; omega))).mono ?_
    rintro e w7 ⟨rfl, hb7⟩
    have hk7 := (HK5.out.set_ 3 (.int .u32 N3)).keep hb7
    have c7 := hk7.cell 4
    have f7 := hk7.frozen 4
    simp at c7 hk7
    have HK7 := Lib.hid hk7
    have HT7 := Lib.hid ((HT5.out.trans T6).then (Tch.below hb7 []) (by simp))
    clear hk7 hb7 T6 HK5 HR9'' HT5 c5 f5
    go_wp2_with fail
    go_ret
    exact ⟨rfl, by simpa using HK7.out.set_ 4 (.int .u32 N4), (HT7.out.trans (Tch.set w7 g 4 (.int .u32 N4))).toGrown⟩
set_option maxHeartbeats 1000000 in
theorem handMarshal_ok (g : Nat) (a0 n1 n2 n3 n4 : Nat) (ha : (a0 : Int) < 256) (w : World) (hk : Blk w g 90 #[.int .u8 a0, .int .u32 n1, .int .u16 n2, .int .u32 n3, .int .u32 n4]) :
    Calls Tryd.prog 43 #[.pointer (some ⟨g, 0, none⟩)] w fun e w' =>
      ∃ A' c', e = .returned (.tuple #[.slice A' 12 c', .nilIface]) ∧ Below w.heap.size w w' ∧
        Rd w' A' [.int .u8 a0, .int .u8 ((n1 : Int) / 65536 % 256), .int .u8 ((n1 : Int) / 256 % 256), .int .u8 ((n1 : Int) % 256), .int .u8 ((n2 : Int) / 256 % 256), .int .u8 ((n2 : Int) % 256), .int .u8 ((n3 : Int) / 65536 % 256), .int .u8 ((n3 : Int) / 256 % 256), .int .u8 ((n3 : Int) % 256), .int .u8 ((n4 : Int) / 65536 % 256), .int .u8 ((n4 : Int) / 256 % 256), .int .u8 ((n4 : Int) % 256)] := by
  have hgs := hk.lt
  go_enter Tryd.func43, Tryd.ntmps43
  go_wp2_with fail
  refine upon_make 65 5 (.int .u8 0) 1 Tryd.underlying65 u8info rfl 12 12 rfl rfl (Nat.le_refl _) (by omega) (by simp only [maxLen]; omega) ?_
  intro w1 hown hb hsz
  have hk1 := hk.keep hb
  have c0 := hk1.cell 0
  simp at c0
  obtain ⟨v0, _, hc0, hf0⟩ := hown.at_ 0 (by omega)
  simp at hc0 hf0
  have HO := Lib.hid hown
  have HB := Lib.hid hb
  have HK := Lib.hid hk1
  clear hown hb hk1 hk
  go_wp2_with fail
  have hO2 := HO.out.set 0 (by omega) (.int .u8 a0)
  have hB2 := HB.out.setCell (p := ⟨w.heap.size, 0, none⟩) (Nat.le_refl _) (.int .u8 a0)
  have hK2 := HK.out.grown (grown_set w1 w.heap.size 0 (.int .u8 a0)) (by simp; omega)
  simp at hO2
  clear HO HB HK c0 hc0 hf0
  generalize hW : w1.setCell ⟨w.heap.size, 0, none⟩ (.int .u8 a0) = w2 at *
  clear hW
  have d1 : w2.drew.cell? ⟨g, 1, none⟩ = some (.int .u32 n1) := by have := hK2.cell 1; simpa using this
  have HO2 : Hid (Own w2.drew w.heap.size 1 (some ⟨w.heap.size, 0, none⟩) 12 12 _) := hO2
  have HB2 : Hid (Below w.heap.size w w2.drew) := hB2.drew
  have HK2 : Hid (Blk w2.drew g 90 _) := hK2
  clear hO2 hB2 hK2
  refine wp_region_still_tail 6 (by kernel_rfl) (by kernel_rfl) ?_
  simp only [List.take_succ_cons, List.take_zero, List.drop_succ_cons, List.drop_zero]
  change wpStill _ _ (World.drew w2) (fun a => wpList _ _ _ _ a (World.drew w2)) _ _
  generalize World.drew w2 = w3 at *
  repeat still_step
  refine wpStill_nil ?_
  go_wp2_with fail
  refine (u24_put w.heap.size w.heap.size 1 1 11 12 12 11 n1 _ w3 HO2.out (by omega) (by omega) (by omega)).mono ?_
  rintro e w4 ⟨rfl, hO4, hg4⟩
  have hB4 := HB2.out.grown hg4 HB2.out.size (fun k hk => by simp at hk; omega)
  have hK4 := HK2.out.grown hg4 (by simp; omega)
  simp at hO4
  clear d1 HO2 HB2 HK2 hg4
  go_wp2_with fail
  have d2 : w4.drew.cell? ⟨g, 2, none⟩ = some (.int .u16 n2) := by have := hK4.cell 2; simpa using this
  have HO4 : Hid (Own w4.drew w.heap.size 1 (some ⟨w.heap.size, 0, none⟩) 12 12 _) := hO4
  have HB4 : Hid (Below w.heap.size w w4.drew) := hB4.drew
  have HK4 : Hid (Blk w4.drew g 90 _) := hK4
  clear hO4 hB4 hK4
  refine wp_region_still_tail 7 (by kernel_rfl) (by kernel_rfl) ?_
  simp only [List.take_succ_cons, List.take_zero, List.drop_succ_cons, List.drop_zero]
  change wpStill _ _ (World.drew w4) (fun a => wpList _ _ _ _ a (World.drew w4)) _ _
  generalize World.drew w4 = w5 at *
  repeat still_step
  refine wpStill_nil ?_
  go_wp2_with fail
  refine (put16_any w.heap.size w.heap.size 0 12 12 4 4 8 8 _ n2 w5 HO4.out (by omega) (by omega) (by omega)).mono ?_
  rintro e w6 ⟨rfl, hO6, hg6⟩
  have hB6 := HB4.out.grown hg6 HB4.out.size (fun k hk => by simp at hk; omega)
  have hK6 := HK4.out.grown hg6 (by simp; omega)
  simp at hO6
  clear d2 HO4 HB4 HK4 hg6
  go_wp2_with fail
  have d3 : w6.drew.cell? ⟨g, 3, none⟩ = some (.int .u32 n3) := by have := hK6.cell 3; simpa using this
  have HO6 : Hid (Own w6.drew w.heap.size 1 (some ⟨w.heap.size, 0, none⟩) 12 12 _) := hO6
  have HB6 : Hid (Below w.heap.size w w6.drew) := hB6.drew
  have HK6 : Hid (Blk w6.drew g 90 _) := hK6
  clear hO6 hB6 hK6
  refine wp_region_still_tail 6 (by kernel_rfl) (by kernel_rfl) ?_
  simp only [List.take_succ_cons, List.take_zero, List.drop_succ_cons, List.drop_zero]
  change wpStill _ _ (World.drew w6) (fun a => wpList _ _ _ _ a (World.drew w6)) _ _
  generalize World.drew w6 = w7 at *
  repeat still_step
  refine wpStill_nil ?_
  go_wp2_with fail
  refine (u24_put w.heap.size w.heap.size 6 6 6 12 12 6 n3 _ w7 HO6.out (by omega) (by omega) (by omega)).mono ?_
  rintro e w8 ⟨rfl, hO8, hg8⟩
  have hB8 := HB6.out.grown hg8 HB6.out.size (fun k hk => by simp at hk; omega)
  have hK8 := HK6.out.grown hg8 (by simp; omega)
  simp at hO8
  clear d3 HO6 HB6 HK6 hg8
  go_wp2_with fail
  have d4 : w8.drew.cell? ⟨g, 4, none⟩ = some (.int .u32 n4) := by have := hK8.cell 4; simpa using this
  have HO8 : Hid (Own w8.drew w.heap.size 1 (some ⟨w.heap.size, 0, none⟩) 12 12 _) := hO8
  have HB8 : Hid (Below w.heap.size w w8.drew) := hB8.drew
  clear hO8 hB8 hK8
  refine wp_region_still_tail 6 (by kernel_rfl) (by kernel_rfl) ?_
  simp only [List.take_succ_cons, List.take_zero, List.drop_succ_cons, List.drop_zero]
  change wpStill _ _ (World.drew w8) (fun a => wpList _ _ _ _ a (World.drew w8)) _ _
  generalize World.drew w8 = w9 at *
  repeat still_step
  refine wpStill_nil ?_
  go_wp2_with fail
  refine (u24_put w.heap.size w.heap.size 9 9 3 12 12 3 n4 _ w9 HO8.out (by omega) (by omega) (by omega)).mono ?_
  rintro e w10 ⟨rfl, hO10, hg10⟩
  have hB10 := HB8.out.grown hg10 HB8.out.size (fun k hk => by simp at hk; omega)
  have HO10 := Lib.hid hO10
  clear d4 HO8 HB8 hg10 hO10
  go_wp2_with fail
  go_ret2
  refine ⟨_, _, rfl, hB10, ?_⟩
  have h := HO10.out.rd
  simpa [List.replicate] using h
theorem verEq_no (w : World) : Calls Tryd.prog 50 #[.agg #[.int .u8 254, .int .u8 253], .agg #[.int .u8 254, .int .u8 255]] w fun e w' => e = .returned (.bool false) ∧ Below w.heap.size w w' := by
  go_enter Tryd.func50, Tryd.ntmps50
  go_wp2_with fail
  go_ret
  exact ⟨rfl, below_two (below_alloc _ _) (below_alloc _ _)⟩
theorem verEq_yes (w : World) : Calls Tryd.prog 50 #[.agg #[.int .u8 254, .int .u8 253], .agg #[.int .u8 254, .int .u8 253]] w fun e w' => e = .returned (.bool true) ∧ Below w.heap.size w w' := by
  go_enter Tryd.func50, Tryd.ntmps50
  go_wp2_with fail
  go_ret
  exact ⟨rfl, below_two (below_alloc _ _) (below_alloc _ _)⟩
def hr0g (i0 i2 i3 i4 i5 : Value) (cl : Nat) (A : Option Addr) (n c : Nat) : Array Value := #[i0, .int .u16 (cl : Int), i2, i3, i4, i5, .slice A n c]
def hr1g (ct e s cl : Nat) (A : Option Addr) (n c : Nat) : Array Value := #[.int .u8 (ct : Int), .int .u16 (cl : Int), .int .u8 254, .int .u8 253, .int .u16 (e : Int), .int .u64 (s : Int), .slice A n c]
/-- What is read, and where. -/
structure HdIn (w : World) (b : Nat) (l : List UInt8) (ct e1 e2 s1 s2 s3 s4 s5 s6 : UInt8) (cid : List UInt8) : Prop where
  r0 : w.cell? ⟨b, 0, none⟩ = some (.int .u8 ct.toNat)
  r1 : w.cell? ⟨b, 1, none⟩ = some (.int .u8 254)
  r2 : w.cell? ⟨b, 2, none⟩ = some (.int .u8 253)
  r3 : w.cell? ⟨b, 3, none⟩ = some (.int .u8 e1.toNat)
  r4 : w.cell? ⟨b, 4, none⟩ = some (.int .u8 e2.toNat)
  r5 : Rd w (some ⟨b, 5, none⟩) (vs [s1, s2, s3, s4, s5, s6])
  r11 : Rd w (some ⟨b, 11, none⟩) (vs cid)
theorem HdIn.tch {w w' : World} {b : Nat} {l : List UInt8} {ct e1 e2 s1 s2 s3 s4 s5 s6 : UInt8} {cid : List UInt8} (h : HdIn w b l ct e1 e2 s1 s2 s3 s4 s5 s6 cid) {L : List Nat} (ht : Tch L w w') (hn : b ∉ L) : HdIn w' b l ct e1 e2 s1 s2 s3 s4 s5 s6 cid :=
  ⟨ht.cell h.r0 hn, ht.cell h.r1 hn, ht.cell h.r2 hn, ht.cell h.r3 hn, ht.cell h.r4 hn, h.r5.tch ht hn, h.r11.tch ht hn⟩
theorem hu_wrap (n N : Nat) (hn : (n : Int) ≤ 2147483647) (e q : Nat) (he : 11 + n = e) (hq : 13 + n = q) : IntKind.i64.wrap (q : Int) = q ∧ (13 : Int) + n = q ∧ (11 : Int) + n = e ∧ IntKind.i64.wrap (e : Int) = e ∧ (11 : Int) ≤ e := ⟨by rw [IntKind.wrap_i64]; omega, by omega, by omega, by rw [IntKind.wrap_i64]; omega, by omega⟩
set_option maxHeartbeats 2000000 in
theorem unmHdG_plain (y0 y2 y3 y4 y5 : Value) (cl : Nat) (g b n c N c0 : Nat) (A0 : Option Addr) (l : List UInt8) (ct e1 e2 s1 s2 s3 s4 s5 s6 : UInt8) (cid : List UInt8) (e s : Nat) (h25 : ((ct.toNat : Int) == 25) = false) (h25' : ¬ ct.toNat = 25) (he : e1.toNat * 256 + e2.toNat = e) (hs : s = (0 : UInt8).toNat * 72057594037927936 + ((0 : UInt8).toNat * 281474976710656 + (s1.toNat * 1099511627776 + (s2.toNat * 4294967296 + (s3.toNat * 16777216 + (s4.toNat * 65536 + (s5.toNat * 256 + s6.toNat)))))))
    (hcid : cid.length = n) (hn3 : (n : Int) ≤ 2147483647) (hN : 13 ≤ N) (hNc : N ≤ c) (w : World) (hk : Blk w g 110 (hr0g y0 y2 y3 y4 y5 cl A0 n c0)) (hin : HdIn w b l ct e1 e2 s1 s2 s3 s4 s5 s6 cid) (hgb : g ≠ b)
    (v0 : w.cell? ⟨4, 0, none⟩ = some (.int .u8 254) ∧ w.cell? ⟨4, 1, none⟩ = some (.int .u8 255)) (v2 : w.cell? ⟨5, 0, none⟩ = some (.int .u8 254) ∧ w.cell? ⟨5, 1, none⟩ = some (.int .u8 253)) (hg0 : g ≠ 4) (hg2 : g ≠ 5) :
    Calls Tryd.prog 41 #[.pointer (some ⟨g, 0, none⟩), .slice (some ⟨b, 0, none⟩) N c] w fun e' w' =>
      e' = .returned .nilIface ∧ Blk w' g 110 (hr1g ct.toNat e s cl A0 n c0) ∧ w.grownBy w' (some g) := by
  have hgs := hk.lt
  have hbs := block_lt hin.r0
  have k0 := hk.cell 0
  have k2 := hk.cell 2
  have k3 := hk.cell 3
  have f0 := hk.frozen 0
  have f2 := hk.frozen 2
  have f3 := hk.frozen 3
  have h0 := hin.r0
  have h1 := hin.r1
  have h2 := hin.r2
  simp [hr0g] at k0 k2 k3
  have i0 : (0 : Int) < N := by omega
  have i1 : (1 : Int) < N := by omega
  have i2 : (2 : Int) < N := by omega
  have i13 : decide ((N : Int) < 13) = false := by simp; omega
  have i13' : ¬ ((N : Int) < 13) := by omega
  have hbg : ¬ b = g := fun h => hgb h.symm
  have HK := Lib.hid hk
  have HIN := Lib.hid hin
  have HV := Lib.hid (And.intro v0 v2)
  have HLE := Lib.hid (And.intro hN hNc)
  have HCID := Lib.hid hcid
  have HS := Lib.hid hs
  have HE := Lib.hid he
  clear hk hin v0 v2 hN hNc hcid hs he hn3
  go_enter Tryd.func41, Tryd.ntmps41
  go_wp2_with fail
  have T := ((Tch.set w g 0 (.int .u8 ct.toNat)).trans (Tch.set _ g 2 (.int .u8 254))).trans (Tch.set _ g 3 (.int .u8 253))
  have hk1 := ((HK.out.set_ 0 (.int .u8 ct.toNat)).set_ 2 (.int .u8 254)).set_ 3 (.int .u8 253)
  simp [hr0g] at hk1
  clear k0 k2 k3 f0 f2 f3 h0 h1 h2 HK
  generalize ((w.setCell ⟨g, 0, none⟩ (.int .u8 ct.toNat)).setCell ⟨g, 2, none⟩ (.int .u8 254)).setCell ⟨g, 3, none⟩ (.int .u8 253) = X at *
  have HT := Lib.hid T
  have HK1 := Lib.hid hk1
  have HX := Lib.hid (HIN.out.tch T (by simp; omega))
  clear T hk1
  have G2 : Hid (∀ w, w.cell? ⟨b, 3, none⟩ = some (.int .u8 e1.toNat) → w.cell? ⟨b, 4, none⟩ = some (.int .u8 e2.toNat) → Calls Tryd.prog 48 #[.agg #[], .slice (some ⟨b, 3, none⟩) (N - 3) (c - 3)] w fun e' w' => e' = .returned (.int .u16 (e : Int)) ∧ Below w.heap.size w w') := Lib.hid (fun w h0 h1 => by
    rw [← HE.out]
    exact u16_any b 3 (N - 3) (c - 3) e1.toNat e2.toNat (by have := e1.toNat_lt; omega) (by have := e2.toNat_lt; omega) (by have := HLE.out; omega) w h0 h1)
  have i3 : (3 : Int) ≤ N := by have := HLE.out; omega
  have e3 : ¬ c = 3 := by have := HLE.out; omega
  have HX1 := Lib.hid (HX.out.tch (Tch.drew X) (by simp))
  have HK2 : Hid (Blk X.drew g 110 _) := HK1
  have HT1 := Lib.hid (HT.out.then (Tch.drew X) (by simp))
  clear HX HK1 HT
  first
    | (go_region_with (first
        | (go_at_call 48; refine (G2.out _ HX1.out.r3 HX1.out.r4).mono ?_; rintro e' w3 ⟨rfl, hb3⟩; have hk3 := HK2.out.keep hb3; have c3 := hk3.cell 4; have f3 := hk3.frozen 4; simp at c3; replace hk3 := Lib.hid hk3)))
    | fail "no"
  all_goals
    have hk4 := hk3.out.set_ 4 (.int .u16 (e : Int))
    simp at hk4
    have T4 := (HT1.out.then (Tch.below hb3 []) (by simp)).trans (Tch.set w3 g 4 (.int .u16 (e : Int)))
    have hx4 := (HX1.out.tch (Tch.below hb3 []) (by simp)).tch (Tch.set w3 g 4 (.int .u16 (e : Int))) (by simp; omega)
    clear HX1 HK2 HT1 hk3 c3 f3 hb3 i3 e3 G2
    generalize hW : w3.setCell ⟨g, 4, none⟩ (.int .u16 (e : Int)) = w4 at *
    clear hW
    have HK4 := Lib.hid hk4
    have HT4 := Lib.hid T4
    have HX4 := Lib.hid hx4
    clear hk4 T4 hx4
    have i11 : (11 : Int) ≤ c := by have := HLE.out; omega
    have e5 : ¬ c = 5 := by have := HLE.out; omega
    go_wp2_with fail
    refine upon_make 65 5 (.int .u8 0) 1 Tryd.underlying65 u8info rfl 8 8 rfl rfl (Nat.le_refl _) (by omega) (by simp only [maxLen]; omega) ?_
    intro w5 hown5 hb5 hsz5
    have HO5 : Hid (Own w5.drew w4.heap.size 1 (some ⟨w4.heap.size, 0, none⟩) 8 8 (List.replicate 8 (Value.int .u8 0))) := hown5
    have HK5 := Lib.hid ((HK4.out.keep hb5).keep (below_drew w5))
    have HX5 := Lib.hid ((HX4.out.tch (Tch.below hb5 []) (by simp)).tch (Tch.drew w5) (by simp))
    have HT5 := Lib.hid ((HT4.out.then (Tch.below hb5 []) (by simp)).then (Tch.drew w5) (by simp))
    have HL4 : Hid (w.heap.size ≤ w4.heap.size) := HT4.out.size
    clear hown5 hb5 hsz5 HK4 HX4 HT4
    go_wp2_with fail
    refine wp_region_still_tail 4 (by kernel_rfl) (by kernel_rfl) ?_
    simp only [List.take_succ_cons, List.take_zero, List.drop_succ_cons, List.drop_zero]
    change wpStill _ _ (World.drew w5) (fun a => wpList _ _ _ _ a (World.drew w5)) _ _
    generalize World.drew w5 = wd at *
    repeat still_step
    refine wpStill_nil ?_
    refine held_copy_part rfl (.tmp 65) (.tmp 67) 65 65 rfl w4.heap.size 5 Tryd.underlying65 (by kernel_rfl) (k := 2) (p := 2) (by omega) rfl rfl HO5.out (ys := vs [s1, s2, s3, s4, s5, s6]) rfl (by simp [vs]) (by simp [vs]) HX5.out.r5 (vs_one _) ?_
    intro w6 hO6 hg6
    have HR6 : Hid (Rd w6 (some ⟨w4.heap.size, 0, none⟩) (vs [0, 0, s1, s2, s3, s4, s5, s6])) := Lib.hid (by simpa [vs, List.replicate] using hO6.rd)
    have hn6 : g ≠ w4.heap.size := by have := HL4.out; omega
    have hn6' : b ≠ w4.heap.size := by have := HL4.out; omega
    have HK6 := Lib.hid (HK5.out.grown hg6 (by simpa using hn6))
    have HT6 := Lib.hid (HT5.out.then (Tch.grown hg6) (by simp; exact .inr HL4.out))
    clear hO6 hg6 HK5 HX5 HT5 HO5 hn6 hn6' i11 e5
    have HU := Lib.hid (u64_get w4.heap.size 0 8 8 0 0 s1 s2 s3 s4 s5 s6 s HS.out (by omega) w6 HR6.out)
    go_wp2_with fail
    refine HU.out.mono ?_
    rintro e' w7 ⟨rfl, hb7⟩
    have hk7 := HK6.out.keep hb7
    have c5 := hk7.cell 5
    have f5 := hk7.frozen 5
    simp at c5
    have HK7 := Lib.hid (hk7.set_ 5 (.int .u64 (s : Int)))
    have HT7 := Lib.hid ((HT6.out.then (Tch.below hb7 []) (by simp)).trans (Tch.set w7 g 5 (.int .u64 (s : Int))))
    clear hk7 hb7 HU HK6 HT6 HR6
    go_wp2_with fail
    clear c5 f5
    generalize hW : w7.setCell ⟨g, 5, none⟩ (.int .u64 (s : Int)) = w8 at *
    clear hW
    have HB : Hid (∀ w', Below w8.heap.size w8 w' → w'.cell? ⟨g, 2, none⟩ = some (.int .u8 254) ∧ w'.cell? ⟨g, 3, none⟩ = some (.int .u8 253) ∧ w'.cell? ⟨4, 0, none⟩ = some (.int .u8 254) ∧ w'.cell? ⟨4, 1, none⟩ = some (.int .u8 255) ∧ w'.cell? ⟨5, 0, none⟩ = some (.int .u8 254) ∧ w'.cell? ⟨5, 1, none⟩ = some (.int .u8 253)) := Lib.hid (fun w' hb => by
      have hk := HK7.out.keep hb
      have ht := HT7.out.then (Tch.below hb []) (by simp)
      exact ⟨(hk.cell 2).trans rfl, (hk.cell 3).trans rfl, ht.cell HV.out.1.1 (by simpa using fun h => hg0 h.symm), ht.cell HV.out.1.2 (by simpa using fun h => hg0 h.symm), ht.cell HV.out.2.1 (by simpa using fun h => hg2 h.symm), ht.cell HV.out.2.2 (by simpa using fun h => hg2 h.symm)⟩)
    have EN := Lib.hid verEq_no
    have EY := Lib.hid verEq_yes
    go_region_held_law (fun w' => w'.cell? ⟨g, 2, none⟩ = some (.int .u8 254) ∧ w'.cell? ⟨g, 3, none⟩ = some (.int .u8 253) ∧ w'.cell? ⟨4, 0, none⟩ = some (.int .u8 254) ∧ w'.cell? ⟨4, 1, none⟩ = some (.int .u8 255) ∧ w'.cell? ⟨5, 0, none⟩ = some (.int .u8 254) ∧ w'.cell? ⟨5, 1, none⟩ = some (.int .u8 253))
      ((refine HB.out _ ?_; (repeat (first | exact Below.refl _ _ | refine below_two ?_ hb1 | refine below_two ?_ hb2 | refine Below.drew ?_)); done)) (first
      | (go_at_call 50; with_reducible refine (EN.out _).mono ?_; rintro e' w1 ⟨rfl, hb1⟩)
      | (go_at_call 50; with_reducible refine (EY.out _).mono ?_; rintro e' w2 ⟨rfl, hb2⟩))
    go_wp2_with fail
    go_ret
    have hbE : Below w8.heap.size w8 w2 := by
      refine below_two (w1 := w1) ?_ ?_
      · first | exact hb1 | exact below_two (below_drew _) hb1
      · first | exact hb2 | exact below_two (below_drew _) hb2
    refine ⟨rfl, by simpa [hr1g] using HK7.out.keep hbE, (HT7.out.then (Tch.below hbE []) (by simp)).toGrown⟩
theorem be2_two (m : Nat) (h : m < 65536) : ∃ a b, be 2 m = [a, b] ∧ a.toNat * 256 + b.toNat = m :=
  ⟨UInt8.ofNat (m / 256), UInt8.ofNat m, by simp [be], by rw [UInt8.toNat_ofNat', UInt8.toNat_ofNat']; omega⟩
theorem be6_six (m : Nat) (h : m < 281474976710656) : ∃ a b c d e f, be 6 m = [a, b, c, d, e, f] ∧ m = (0 : UInt8).toNat * 72057594037927936 + ((0 : UInt8).toNat * 281474976710656 + (a.toNat * 1099511627776 + (b.toNat * 4294967296 + (c.toNat * 16777216 + (d.toNat * 65536 + (e.toNat * 256 + f.toNat)))))) :=
  ⟨UInt8.ofNat (m / 1099511627776), UInt8.ofNat (m / 4294967296), UInt8.ofNat (m / 16777216), UInt8.ofNat (m / 65536), UInt8.ofNat (m / 256), UInt8.ofNat m, by simp [be], by
    rw [UInt8.toNat_ofNat', UInt8.toNat_ofNat', UInt8.toNat_ofNat', UInt8.toNat_ofNat', UInt8.toNat_ofNat', UInt8.toNat_ofNat']
    show m = 0 * 72057594037927936 + (0 * 281474976710656 + _)
    omega⟩
theorem hdIn_of {w : World} {b : Nat} {ct e1 e2 s1 s2 s3 s4 s5 s6 : UInt8} {cid t l : List UInt8} (hl : l = ct :: 254 :: 253 :: e1 :: e2 :: s1 :: s2 :: s3 :: s4 :: s5 :: s6 :: (cid ++ t)) (hr : Rd w (some ⟨b, 0, none⟩) (vs l)) : HdIn w b l ct e1 e2 s1 s2 s3 s4 s5 s6 cid := by
  subst hl
  have h0 := hr.byte 0 (by simp)
  have h1 := hr.byte 1 (by simp)
  have h2 := hr.byte 2 (by simp)
  have h3 := hr.byte 3 (by simp)
  have h4 := hr.byte 4 (by simp)
  have h5 := Rd.part hr 5 6
  have h11 := Rd.part hr 11 cid.length
  simp at h0 h1 h2 h3 h4 h5 h11
  exact ⟨h0, h1, h2, h3, h4, h5, h11⟩
end Go.Proofs.YtadblfnggmaadaaDoor
