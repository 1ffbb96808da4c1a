/- Walks: numbers of three bytes and of four, read and laid. -/
import Derived.Test.YtkjpkenhpmjikaaDoorOps5
import Derived.Test.YtkjpkenhpmjikaaDoorStr32
namespace Go.Proofs.YtkjpkenhpmjikaaDoor
open Go.RowKit Go.Cv
set_option maxRecDepth 100000
set_option linter.unusedVariables false
theorem or32r (x y z t : Nat) (hx : x < 256) (hy : y < 256) (hz : z < 256) (ht : t < 256) :
    bits BinOp.or IntKind.u32 (bits BinOp.or IntKind.u32 (bits BinOp.or IntKind.u32 (t : Int) ((z : Int) * 256)) ((y : Int) * 65536)) ((x : Int) * 16777216) = ((x * 16777216 + y * 65536 + z * 256 + t : Nat) : Int) := by
  have e1 : ((x : Int) * 16777216) = ((x * 16777216 : Nat) : Int) := by omega
  have e2 : ((y : Int) * 65536) = ((y * 65536 : Nat) : Int) := by omega
  have e3 : ((z : Int) * 256) = ((z * 256 : Nat) : Int) := by omega
  have o1 : t ||| z * 256 = z * 256 + t := by rw [Nat.or_comm]; exact or_shl 8 t z (by omega)
  have o2 : (z * 256 + t) ||| y * 65536 = y * 65536 + (z * 256 + t) := by rw [Nat.or_comm]; exact or_shl 16 (z * 256 + t) y (by omega)
  have o3 : (y * 65536 + (z * 256 + t)) ||| x * 16777216 = x * 16777216 + (y * 65536 + (z * 256 + t)) := by rw [Nat.or_comm]; exact or_shl 24 _ x (by omega)
  rw [e1, e2, e3, u32_or_nat _ _ (by omega) (by omega), o1, u32_or_nat _ _ (by omega) (by omega), o2, u32_or_nat _ _ (by omega) (by omega), o3]
  have e : x * 16777216 + (y * 65536 + (z * 256 + t)) = x * 16777216 + y * 65536 + z * 256 + t := by omega
  rw [e]
theorem u32_get (b o n c : Nat) (x y z t : UInt8) (N : Int) (hN : N = ((x.toNat * 16777216 + y.toNat * 65536 + z.toNat * 256 + t.toNat : Nat) : Int)) (hn : (4 : Int) ≤ n) (w : World) (hr : Rd w (some ⟨b, o, none⟩) (vs [x, y, z, t])) :
    Calls Tryd.prog 118 #[.agg #[], .slice (some ⟨b, o, none⟩) n c] w fun e w' => e = .returned (.int .u32 N) ∧ Below w.heap.size w w' := by
  have i0 : (0 : Int) < n := by omega
  have i1 : (1 : Int) < n := by omega
  have i2 : (2 : Int) < n := by omega
  have i3 : (3 : Int) < n := by omega
  have h0 := hr.byte 0 (by simp)
  have h1 := hr.byte 1 (by simp)
  have h2 := hr.byte 2 (by simp)
  have h3 := hr.byte 3 (by simp)
  have hb0 := block_lt h0
  simp at h0 h1 h2 h3 hb0
  have HE := Lib.hid (or32r x.toNat y.toNat z.toNat t.toNat x.toNat_lt y.toNat_lt z.toNat_lt t.toNat_lt)
  rw [← hN] at HE
  clear hN hr
  go_enter Tryd.func118, Tryd.ntmps118
  go_wp2_with fail
  go_quiet (fail)
  go_wp2_with fail
  go_ret
  refine ⟨?_, (below_alloc w _).trans ⟨rfl, rfl, rfl, Nat.le_refl _, fun _ _ => rfl⟩⟩
  have hx := x.toNat_lt
  have hy := y.toNat_lt
  have hz := z.toNat_lt
  have ht := t.toNat_lt
  clear h0 h1 h2 h3
  have m0 : (x.toNat : Int) % 4294967296 = x.toNat := by omega
  have m1 : (y.toNat : Int) % 4294967296 = y.toNat := by omega
  have m2 : (z.toNat : Int) % 4294967296 = z.toNat := by omega
  have m3 : (t.toNat : Int) % 4294967296 = t.toNat := by omega
  have m4 : (x.toNat : Int) * 16777216 % 4294967296 = x.toNat * 16777216 := by omega
  have m5 : (y.toNat : Int) * 65536 % 4294967296 = y.toNat * 65536 := by omega
  have m6 : (z.toNat : Int) * 256 % 4294967296 = z.toNat * 256 := by omega
  show Ending.returned (.int .u32 (bits BinOp.or IntKind.u32 (bits BinOp.or IntKind.u32 (bits BinOp.or IntKind.u32 ((t.toNat : Int) % 4294967296) ((z.toNat : Int) % 4294967296 * 256 % 4294967296)) ((y.toNat : Int) % 4294967296 * 65536 % 4294967296)) ((x.toNat : Int) % 4294967296 * 16777216 % 4294967296))) = _
  rw [m0, m1, m2, m3, m4, m5, m6, HE.out]
theorem u24_get (A : Option Addr) (n c : Nat) (y z t : UInt8) (N : Int) (hN : N = ((y.toNat * 65536 + z.toNat * 256 + t.toNat : Nat) : Int)) (hn : (3 : Int) ≤ n) (w : World) (hr : Rd w A (vs [y, z, t])) :
    Calls Tryd.prog 110 #[.slice A n c] w fun e w' => e = .returned (.int .u32 N) ∧ Below w.heap.size w w' := by
  have HU := Lib.hid (fun b w h => u32_get b 0 4 4 0 y z t N (by rw [hN]; simp) (by omega) w h)
  clear hN
  go_enter Tryd.func110, Tryd.ntmps110
  go_wp2_with fail
  refine upon_make 54 5 (.int .u8 0) 1 Tryd.underlying54 u8info rfl 4 4 rfl rfl (Nat.le_refl _) (by omega) (by simp only [maxLen]; omega) ?_
  intro w1 hown hb hsz
  have hr1 := hr.keep hb
  clear hr
  go_wp2_with (with_reducible refine Held.copy ?_)
  refine held_copy_part rfl (.tmp 9) (.tmp 10) 54 54 rfl w.heap.size 5 Tryd.underlying54 (by kernel_rfl) (k := 1) (by omega) rfl rfl hown (ys := vs [y, z, t]) (by rw [vs_length]; show 3 = Nat.min n 3; exact (Nat.min_eq_right (by omega)).symm) (by simp [vs]) (by simp [vs]) hr1 (vs_one _) ?_
  intro w2 hO hg
  have hR : Rd w2 (some ⟨w.heap.size, 0, none⟩) (vs [0, y, z, t]) := by simpa [vs, List.replicate] using hO.rd
  have hb2 : Below w.heap.size w w2 := below_of_grown hb hg hb.size (Nat.le_refl _)
  clear hown hO hr1 hg
  go_wp2_with fail
  refine (HU.out w.heap.size w2 hR).mono ?_
  rintro e w3 ⟨rfl, hb3⟩
  go_wp2_with fail
  go_ret
  exact ⟨rfl, below_two hb2 hb3⟩
/-- PutUint32 lays the four bytes of its number. -/
theorem u32_put (B b n c : Nat) (v : Nat) (xs : List Value) (w : World) (hown : Own w B 1 (some ⟨b, 0, none⟩) 4 4 xs) :
    Calls Tryd.prog 119 #[.agg #[], .slice (some ⟨b, 0, none⟩) 4 4, .int .u32 v] w fun e w' =>
      e = .returned (.tuple #[]) ∧ Own w' B 1 (some ⟨b, 0, none⟩) 4 4 [.int .u8 ((v : Int) / 16777216 % 256), .int .u8 ((v : Int) / 65536 % 256), .int .u8 ((v : Int) / 256 % 256), .int .u8 ((v : Int) % 256)] ∧ w.grownBy w' (some b) := by
  obtain ⟨a0, a1, a2, a3, rfl⟩ : ∃ a0 a1 a2 a3, xs = [a0, a1, a2, a3] := by
    have h := hown.1
    match xs, h with
    | [a0, a1, a2, a3], _ => exact ⟨_, _, _, _, rfl⟩
  obtain ⟨v0, _, hc0, hf0⟩ := hown.at_ 0 (by omega)
  obtain ⟨v1, _, hc1, hf1⟩ := hown.at_ 1 (by omega)
  obtain ⟨v2, _, hc2, hf2⟩ := hown.at_ 2 (by omega)
  obtain ⟨v3, _, hc3, hf3⟩ := hown.at_ 3 (by omega)
  have hb0 := block_lt hc0
  simp at hc0 hc1 hc2 hc3 hf0 hf1 hf2 hf3 hb0
  have HO := Lib.hid hown
  clear hown
  go_enter Tryd.func119, Tryd.ntmps119
  go_wp2_with fail
  go_end0
  have hs := (((HO.out.set 0 (by omega) (.int .u8 ((v : Int) / 16777216 % 256))).set 1 (by omega) (.int .u8 ((v : Int) / 65536 % 256))).set 2 (by omega) (.int .u8 ((v : Int) / 256 % 256))).set 3 (by omega) (.int .u8 ((v : Int) % 256))
  have hT := (((Tch.set w b 0 (.int .u8 ((v : Int) / 16777216 % 256))).trans (Tch.set _ b 1 (.int .u8 ((v : Int) / 65536 % 256)))).trans (Tch.set _ b 2 (.int .u8 ((v : Int) / 256 % 256)))).trans (Tch.set _ b 3 (.int .u8 ((v : Int) % 256)))
  have hs2 := hs.keep (below_alloc _ (.cells #[] 157))
  simp at hs2
  exact ⟨rfl, hs2, (hT.then (Tch.alloc _ _) (by simp)).toGrown⟩
theorem u24_put (B b p k m c n c' : Nat) (v : Nat) (xs : List Value) (w : World) (hown : Own w B 1 (some ⟨b, 0, none⟩) n c xs) (hp : p = 0 + k) (hk : k + 3 ≤ n) (hm : 3 ≤ m) :
    Calls Tryd.prog 112 #[.slice (some ⟨b, p, none⟩) m c', .int .u32 v] w fun e w' =>
      e = .returned (.tuple #[]) ∧ Own w' B 1 (some ⟨b, 0, none⟩) n c (xs.take k ++ ([.int .u8 ((v : Int) / 65536 % 256), .int .u8 ((v : Int) / 256 % 256), .int .u8 ((v : Int) % 256)] ++ xs.drop (k + 3))) ∧ w.grownBy w' (some b) := by
  go_enter Tryd.func112, Tryd.ntmps112
  have HO := Lib.hid hown
  have hbl : b < w.heap.size := by
    obtain ⟨v0, _, hc0, hf0⟩ := hown.at_ 0 (by omega)
    exact block_lt hc0
  clear hown
  go_wp2_with fail
  refine upon_make 54 5 (.int .u8 0) 1 Tryd.underlying54 u8info rfl 4 4 rfl rfl (Nat.le_refl _) (by omega) (by simp only [maxLen]; omega) ?_
  intro w1 hown1 hb1 hsz1
  go_wp2_with fail
  refine (u32_put w.heap.size w.heap.size 4 4 v _ w1 hown1).mono ?_
  rintro e w2 ⟨rfl, hO2, hg2⟩
  have T2 : Tch [] w w2 := (Tch.below hb1 []).then (Tch.grown hg2) (by simp)
  have hO := HO.out.mono (w' := w2) (fun a ha hlt => by
    simp at ha
    have hh := T2.block a.block hlt (by simp)
    exact ⟨cell_of_heap hh, by simp only [World.frozen?, hh]⟩)
  have hR : Rd w2 (some ⟨w.heap.size, 1, none⟩) [.int .u8 ((v : Int) / 65536 % 256), .int .u8 ((v : Int) / 256 % 256), .int .u8 ((v : Int) % 256)] := by
    have := hO2.rd.drop 1
    simpa [add_lit] using this
  clear hown1 hb1 hO2 hg2
  go_wp2_with (with_reducible refine Held.copy ?_)
  refine held_copy_part rfl (.tmp 10) (.tmp 12) 54 54 rfl B 5 Tryd.underlying54 (by kernel_rfl) (k := k) (p := k) (by omega) rfl rfl hO (ys := [.int .u8 ((v : Int) / 65536 % 256), .int .u8 ((v : Int) / 256 % 256), .int .u8 ((v : Int) % 256)]) (by show 3 = Nat.min 3 m; exact (Nat.min_eq_left hm).symm) (by simpa using hk) (by simp) hR (by intro v h; simp at h; rcases h with rfl | rfl | rfl <;> rfl) ?_
  intro w3 hO3 hg3
  have HO3 := Lib.hid hO3
  clear hO hR hO3
  go_wp2_with fail
  go_end0
  exact ⟨rfl, HO3.out, ((T2.more (M := [b]) (by simp)).trans (Tch.grown hg3)).toGrown⟩
end Go.Proofs.YtkjpkenhpmjikaaDoor
