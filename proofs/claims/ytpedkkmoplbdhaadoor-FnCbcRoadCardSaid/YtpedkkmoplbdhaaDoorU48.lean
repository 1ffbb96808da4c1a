/- Walks: numbers of eight bytes and of six, read and laid. -/
import Derived.Test.YtpedkkmoplbdhaaDoorBase
import Derived.Test.YtpedkkmoplbdhaaDoorU16
import Derived.Test.YtpedkkmoplbdhaaDoorBig
import Derived.BigQuiet
namespace Go.Proofs.YtpedkkmoplbdhaaDoor
open Go.RowKit Go.Cv
set_option maxRecDepth 100000
set_option linter.unusedVariables false
theorem or64_step (i a b m : Nat) (M : Int) (hM : M = (m : Int)) (hm : 2 ^ i = m) (ha : a < m) (hb : b * m + a < 18446744073709551616) : bits BinOp.or IntKind.u64 (a : Int) ((b : Int) * M) = ((b * m + a : Nat) : Int) := by
  subst hM
  have e : ((b : Int) * (m : Int)) = ((b * m : Nat) : Int) := by simp
  have hx : a ||| b * m = b * m + a := by
    rw [Nat.or_comm, ← hm, ← Nat.shiftLeft_eq, Nat.shiftLeft_add_eq_or_of_lt (by rw [hm]; exact ha)]
  rw [e, u64_or_nat _ _ (by omega) (by omega), hx]
theorem or64r (x y a b c d e f : Nat) (hx : x < 256) (hy : y < 256) (ha : a < 256) (hb : b < 256) (hc : c < 256) (hd : d < 256) (he : e < 256) (hf : f < 256) (N : Nat) (hN : N = x * 72057594037927936 + (y * 281474976710656 + (a * 1099511627776 + (b * 4294967296 + (c * 16777216 + (d * 65536 + (e * 256 + f))))))) :
    bits BinOp.or IntKind.u64 (bits BinOp.or IntKind.u64 (bits BinOp.or IntKind.u64 (bits BinOp.or IntKind.u64 (bits BinOp.or IntKind.u64 (bits BinOp.or IntKind.u64 (bits BinOp.or IntKind.u64 (f : Int) ((e : Int) * 256)) ((d : Int) * 65536)) ((c : Int) * 16777216)) ((b : Int) * 4294967296)) ((a : Int) * 1099511627776)) ((y : Int) * 281474976710656)) ((x : Int) * 72057594037927936) = (N : Int) := by
  rw [or64_step 8 f e 256 256 rfl rfl (by omega) (by omega), or64_step 16 _ d 65536 65536 rfl rfl (by omega) (by omega), or64_step 24 _ c 16777216 16777216 rfl rfl (by omega) (by omega), or64_step 32 _ b 4294967296 4294967296 rfl rfl (by omega) (by omega), or64_step 40 _ a 1099511627776 1099511627776 rfl rfl (by omega) (by omega), or64_step 48 _ y 281474976710656 281474976710656 rfl rfl (by omega) (by omega), or64_step 56 _ x 72057594037927936 72057594037927936 rfl rfl (by omega) (by omega), hN]
theorem wu (x : UInt8) (m : Int) (h0 : 0 ≤ m) (h : m ≤ 72057594037927936) : IntKind.u64.wrap ((x.toNat : Int) * m) = (x.toNat : Int) * m := by
  have hx : (x.toNat : Int) ≤ 255 := by have := x.toNat_lt; omega
  have h2 : (x.toNat : Int) * m ≤ 255 * m := Int.mul_le_mul_of_nonneg_right hx h0
  have h3 : 0 ≤ (x.toNat : Int) * m := Int.mul_nonneg (by omega) h0
  rw [IntKind.wrap_u64]
  omega
theorem u64_get (b o n c : Nat) (x y a1 a2 a3 a4 a5 a6 : UInt8) (N : Nat) (hN : N = x.toNat * 72057594037927936 + (y.toNat * 281474976710656 + (a1.toNat * 1099511627776 + (a2.toNat * 4294967296 + (a3.toNat * 16777216 + (a4.toNat * 65536 + (a5.toNat * 256 + a6.toNat))))))) (hn : (8 : Int) ≤ n) (w : World) (hr : Rd w (some ⟨b, o, none⟩) (vs [x, y, a1, a2, a3, a4, a5, a6])) :
    Calls Tryd.prog 94 #[.agg #[], .slice (some ⟨b, o, none⟩) n c] w fun e w' => e = .returned (.int .u64 N) ∧ Below w.heap.size w w' := by
  have i0 : (0 : Int) < n := by omega
  have i1 : (1 : Int) < n := by omega
  have i2 : (2 : Int) < n := by omega
  have i3 : (3 : Int) < n := by omega
  have i4 : (4 : Int) < n := by omega
  have i5 : (5 : Int) < n := by omega
  have i6 : (6 : Int) < n := by omega
  have i7 : (7 : Int) < n := by omega
  have h0 := hr.byte 0 (by simp)
  have h1 := hr.byte 1 (by simp)
  have h2 := hr.byte 2 (by simp)
  have h3 := hr.byte 3 (by simp)
  have h4 := hr.byte 4 (by simp)
  have h5 := hr.byte 5 (by simp)
  have h6 := hr.byte 6 (by simp)
  have h7 := hr.byte 7 (by simp)
  have hb0 := block_lt h0
  simp at h0 h1 h2 h3 h4 h5 h6 h7 hb0
  have HE := Lib.hid (or64r x.toNat y.toNat a1.toNat a2.toNat a3.toNat a4.toNat a5.toNat a6.toNat x.toNat_lt y.toNat_lt a1.toNat_lt a2.toNat_lt a3.toNat_lt a4.toNat_lt a5.toNat_lt a6.toNat_lt N hN)
  have p0 := wu x 1 (by omega) (by omega)
  have p1 := wu y 1 (by omega) (by omega)
  have p2 := wu a1 1 (by omega) (by omega)
  have p3 := wu a2 1 (by omega) (by omega)
  have p4 := wu a3 1 (by omega) (by omega)
  have p5 := wu a4 1 (by omega) (by omega)
  have p6 := wu a5 1 (by omega) (by omega)
  have p7 := wu a6 1 (by omega) (by omega)
  rw [Int.mul_one] at p0 p1 p2 p3 p4 p5 p6 p7
  have r0 := wu x 72057594037927936 (by omega) (by omega)
  have r1 := wu y 281474976710656 (by omega) (by omega)
  have r2 := wu a1 1099511627776 (by omega) (by omega)
  have r3 := wu a2 4294967296 (by omega) (by omega)
  have r4 := wu a3 16777216 (by omega) (by omega)
  have r5 := wu a4 65536 (by omega) (by omega)
  have r6 := wu a5 256 (by omega) (by omega)
  clear hN hr
  go_enter Tryd.func94, Tryd.ntmps94
  go_wp2_with fail
  go_quiet (fail)
  go_wp2_with fail
  go_ret
  refine ⟨?_, (below_alloc w _).trans ⟨rfl, rfl, rfl, Nat.le_refl _, fun _ _ => rfl⟩⟩
  exact congrArg (fun z => Ending.returned (Value.int .u64 z)) HE.out
theorem u64_put (B b n c : Nat) (v : Nat) (xs : List Value) (w : World) (hown : Own w B 1 (some ⟨b, 0, none⟩) 8 8 xs) :
    Calls Tryd.prog 87 #[.agg #[], .slice (some ⟨b, 0, none⟩) 8 8, .int .u64 v] w fun e w' =>
      e = .returned (.tuple #[]) ∧ Own w' B 1 (some ⟨b, 0, none⟩) 8 8 [.int .u8 ((v : Int) / 72057594037927936 % 256), .int .u8 ((v : Int) / 281474976710656 % 256), .int .u8 ((v : Int) / 1099511627776 % 256), .int .u8 ((v : Int) / 4294967296 % 256), .int .u8 ((v : Int) / 16777216 % 256), .int .u8 ((v : Int) / 65536 % 256), .int .u8 ((v : Int) / 256 % 256), .int .u8 ((v : Int) % 256)] ∧ w.grownBy w' (some b) := by
  obtain ⟨a0, a1, a2, a3, a4, a5, a6, a7, rfl⟩ : ∃ a0 a1 a2 a3 a4 a5 a6 a7, xs = [a0, a1, a2, a3, a4, a5, a6, a7] := by
    have h := hown.1
    match xs, h with
    | [a0, a1, a2, a3, a4, a5, a6, a7], _ => exact ⟨_, _, _, _, _, _, _, _, rfl⟩
  obtain ⟨v0, _, hc0, hf0⟩ := hown.at_ 0 (by omega)
  obtain ⟨v1, _, hc1, hf1⟩ := hown.at_ 1 (by omega)
  obtain ⟨v2, _, hc2, hf2⟩ := hown.at_ 2 (by omega)
  obtain ⟨v3, _, hc3, hf3⟩ := hown.at_ 3 (by omega)
  obtain ⟨v4, _, hc4, hf4⟩ := hown.at_ 4 (by omega)
  obtain ⟨v5, _, hc5, hf5⟩ := hown.at_ 5 (by omega)
  obtain ⟨v6, _, hc6, hf6⟩ := hown.at_ 6 (by omega)
  obtain ⟨v7, _, hc7, hf7⟩ := hown.at_ 7 (by omega)
  have hb0 := block_lt hc0
  simp at hc0 hc1 hc2 hc3 hc4 hc5 hc6 hc7 hf0 hf1 hf2 hf3 hf4 hf5 hf6 hf7 hb0
  have HO := Lib.hid hown
  clear hown
  go_enter Tryd.func87, Tryd.ntmps87
  go_wp2_with fail
  go_end0
  have hs := (((((((HO.out.set 0 (by omega) (.int .u8 ((v : Int) / 72057594037927936 % 256))).set 1 (by omega) (.int .u8 ((v : Int) / 281474976710656 % 256))).set 2 (by omega) (.int .u8 ((v : Int) / 1099511627776 % 256))).set 3 (by omega) (.int .u8 ((v : Int) / 4294967296 % 256))).set 4 (by omega) (.int .u8 ((v : Int) / 16777216 % 256))).set 5 (by omega) (.int .u8 ((v : Int) / 65536 % 256))).set 6 (by omega) (.int .u8 ((v : Int) / 256 % 256))).set 7 (by omega) (.int .u8 ((v : Int) % 256))
  have hT := (((((((Tch.set w b 0 (.int .u8 ((v : Int) / 72057594037927936 % 256))).trans (Tch.set _ b 1 (.int .u8 ((v : Int) / 281474976710656 % 256)))).trans (Tch.set _ b 2 (.int .u8 ((v : Int) / 1099511627776 % 256)))).trans (Tch.set _ b 3 (.int .u8 ((v : Int) / 4294967296 % 256)))).trans (Tch.set _ b 4 (.int .u8 ((v : Int) / 16777216 % 256)))).trans (Tch.set _ b 5 (.int .u8 ((v : Int) / 65536 % 256)))).trans (Tch.set _ b 6 (.int .u8 ((v : Int) / 256 % 256)))).trans (Tch.set _ b 7 (.int .u8 ((v : Int) % 256)))
  have hs2 := hs.keep (below_alloc _ (.cells #[] 114))
  simp at hs2
  exact ⟨rfl, hs2, (hT.then (Tch.alloc _ _) (by simp)).toGrown⟩
theorem u48_put (B b p k m c n c' : Nat) (v : Nat) (xs : List Value) (w : World) (hown : Own w B 1 (some ⟨b, 0, none⟩) n c xs) (hp : p = 0 + k) (hk : k + 6 ≤ n) (hm : 6 ≤ m) :
    Calls Tryd.prog 80 #[.slice (some ⟨b, p, none⟩) m c', .int .u64 v] w fun e w' =>
      e = .returned (.tuple #[]) ∧ Own w' B 1 (some ⟨b, 0, none⟩) n c (xs.take k ++ (vs (be 6 v) ++ xs.drop (k + 6))) ∧ w.grownBy w' (some b) := by
  have h6 : vs (be 6 v) = [.int .u8 ((v : Int) / 1099511627776 % 256), .int .u8 ((v : Int) / 4294967296 % 256), .int .u8 ((v : Int) / 16777216 % 256), .int .u8 ((v : Int) / 65536 % 256), .int .u8 ((v : Int) / 256 % 256), .int .u8 ((v : Int) % 256)] := by
    simp [be, vs]
  rw [h6]
  clear h6
  go_enter Tryd.func80, Tryd.ntmps80
  have HO := Lib.hid hown
  have hbl : b < w.heap.size := by
    obtain ⟨v0, _, hc0, hf0⟩ := hown.at_ 0 (by omega)
    exact block_lt hc0
  clear hown
  go_wp2_with fail
  refine upon_make 51 5 (.int .u8 0) 1 Tryd.underlying51 u8info rfl 8 8 rfl rfl (Nat.le_refl _) (by omega) (by simp only [maxLen]; omega) ?_
  intro w1 hown1 hb1 hsz1
  go_wp2_with fail
  refine (u64_put w.heap.size w.heap.size 8 8 v _ w1 hown1).mono ?_
  rintro e w2 ⟨rfl, hO2, hg2⟩
  have T2 : Tch [] w w2 := (Tch.below hb1 []).then (Tch.grown hg2) (by simp)
  have hO := HO.out.mono (w' := w2) (fun a ha hlt => by
    simp at ha
    have hh := T2.block a.block hlt (by simp)
    exact ⟨cell_of_heap hh, by simp only [World.frozen?, hh]⟩)
  have hR : Rd w2 (some ⟨w.heap.size, 2, none⟩) [.int .u8 ((v : Int) / 1099511627776 % 256), .int .u8 ((v : Int) / 4294967296 % 256), .int .u8 ((v : Int) / 16777216 % 256), .int .u8 ((v : Int) / 65536 % 256), .int .u8 ((v : Int) / 256 % 256), .int .u8 ((v : Int) % 256)] := by
    have := hO2.rd.drop 2
    simpa [add_lit] using this
  clear hown1 hb1 hO2 hg2
  go_wp2_with (with_reducible refine Held.copy ?_)
  refine held_copy_part rfl (.tmp 10) (.tmp 12) 51 51 rfl B 5 Tryd.underlying51 (by kernel_rfl) (k := k) (p := k) (by omega) rfl rfl hO (ys := [.int .u8 ((v : Int) / 1099511627776 % 256), .int .u8 ((v : Int) / 4294967296 % 256), .int .u8 ((v : Int) / 16777216 % 256), .int .u8 ((v : Int) / 65536 % 256), .int .u8 ((v : Int) / 256 % 256), .int .u8 ((v : Int) % 256)]) (by show 6 = Nat.min 6 m; exact (Nat.min_eq_left hm).symm) (by simpa using hk) (by simp) hR (by intro v h; simp at h; rcases h with rfl | rfl | rfl | rfl | rfl | rfl <;> rfl) ?_
  intro w3 hO3 hg3
  have HO3 := Lib.hid hO3
  clear hO hR hO3
  go_wp2_with fail
  go_end0
  exact ⟨rfl, HO3.out, ((T2.more (M := [b]) (by simp)).trans (Tch.grown hg3)).toGrown⟩
end Go.Proofs.YtpedkkmoplbdhaaDoor
