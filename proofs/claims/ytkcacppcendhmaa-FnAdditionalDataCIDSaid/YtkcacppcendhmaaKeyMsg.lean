/- Walks: the message that a server signs about its key. -/
import Derived.Test.YtkcacppcendhmaaBig
import Derived.Test.YtkcacppcendhmaaOps6
import Derived.Test.YtkcacppcendhmaaRow
import Derived.Deep.RegionHeld3
namespace Go.Proofs.Ytkcacppcendhmaa
open Go.RowKit Go.Cv
set_option maxRecDepth 100000
set_option linter.unusedVariables false
theorem be2 (n : Nat) : vs (be 2 n) = [.int .u8 ((n : Int) / 256 % 256), .int .u8 ((n : Int) % 256)] := by
  simp [be, vs]
theorem be1 (n : Nat) : vs (be 1 n) = [.int .u8 ((n : Int) % 256)] := by
  simp [be, vs]
def keyHead (n m : Nat) : List UInt8 := 3 :: (be 2 n ++ be 1 m)
theorem keyHead_length (n m : Nat) : (keyHead n m).length = 4 := by simp [keyHead, be_length]
theorem keyHead_vs (n m : Nat) : vs (keyHead n m) = [.int .u8 3, .int .u8 ((n : Int) / 256 % 256), .int .u8 ((n : Int) % 256), .int .u8 ((m : Int) % 256)] := by
  simp [keyHead, be, vs]
def keyText (l1 l2 l3 : List UInt8) (n : Nat) : List UInt8 := l1 ++ l2 ++ keyHead n l3.length ++ l3
theorem keyTwo_any (n : Nat) (hn : (n : Int) < 65536) (w : World) :
    Calls Try.prog 11 #[.int .i64 n] w fun e w' => e = .returned (.string (S (be 2 n))) ∧ Below w.heap.size w w' := by
  have h1 : (n : Int) / 256 % 256 = (n : Int) / 256 := by omega
  clear hn
  go_enter Try.func11, Try.ntmps11
  go_wp2_with fail
  refine upon_conv_bs 31 9 5 Try.underlying31 Try.underlying5 Try.underlying9 (be 2 n) _ _ _ (be_length _ _) (by rw [be2, h1]; exact rd_pair _ _ _ _) ?_
  go_wp2_with fail
  go_ret
  exact ⟨rfl, below_alloc _ _⟩
theorem valueKey_any (A1 A2 A3 : Option Addr) (n1 n2 n3 c1 c2 c3 : Nat) (l1 l2 l3 : List UInt8) (h1 : l1.length = n1) (h2 : l2.length = n2) (h3 : l3.length = n3) (m : Nat)
    (g1 : n1 ≤ 2147483647) (g2 : n2 ≤ 2147483647) (g3 : n3 ≤ 255) (w : World) (hr1 : Rd w A1 (vs l1)) (hr2 : Rd w A2 (vs l2)) (hr3 : Rd w A3 (vs l3)) :
    Calls Try.prog 15 #[.slice A1 n1 c1, .slice A2 n2 c2, .slice A3 n3 c3, .int .u16 m] w fun e w' => ∃ A' n' c', e = .returned (.slice A' n' c') ∧ (keyText l1 l2 l3 m).length = n' ∧ Rd w' A' (vs (keyText l1 l2 l3 m)) ∧ Below w.heap.size w w' := by
  have hw3 : IntKind.u8.wrap (n3 : Int) = (n3 : Int) := by rw [IntKind.wrap_u8]; omega
  have G : Hid (n1 ≤ 2147483647 ∧ n2 ≤ 2147483647 ∧ n3 ≤ 255) := ⟨g1, g2, g3⟩
  clear g1 g2 g3
  go_enter Try.func15, Try.ntmps15
  go_wp2_with fail
  refine upon_make 31 5 (.int .u8 0) 1 Try.underlying31 u8info rfl 4 4 rfl rfl (Nat.le_refl _) (by omega) (by simp only [maxLen]; omega) ?_
  intro w1 hown hb hsz
  obtain ⟨v0, _, hc0, hf0⟩ := hown.at_ 0 (by omega)
  have hs0 := hown.set 0 (by omega) (.int .u8 3)
  have hb0 := hb.setCell (p := ⟨w.heap.size, 0 + 0, none⟩) (Nat.le_refl _) (.int .u8 3)
  have HS0 := Lib.hid hs0
  have HB0 := Lib.hid hb0
  simp only [Nat.add_zero] at hc0 hf0 HS0 HB0
  clear hs0 hb0 hown hb
  go_wp2_with fail
  go_region_held3 (fun _ => True) (trivial) (first
    | (go_at_call 18; refine (put16_any w.heap.size w.heap.size 0 4 4 1 1 3 _ _ m _ (HS0.out.keep ((Below.refl _ _).drew)) (by omega) (by omega) (by omega)).mono ?_; rintro e w4 ⟨rfl, hown4, hg4⟩))
  have hb4 : Below w.heap.size w w4 := (HB0.out.drew).grown hg4 (by have := hsz; simp; omega) (fun k hk => by simp at hk; omega)
  obtain ⟨v3, _, hc3, hf3⟩ := hown4.at_ 3 (by omega)
  have hs5 := hown4.set 3 (by omega) (.int .u8 (n3 : Int))
  have hb5 := hb4.setCell (p := ⟨w.heap.size, 0 + 3, none⟩) (Nat.le_refl _) (.int .u8 (n3 : Int))
  have hr5 : Rd (w4.setCell ⟨w.heap.size, 0 + 3, none⟩ (.int .u8 (n3 : Int))) (some ⟨w.heap.size, 0, none⟩) (vs (keyHead m l3.length)) := by
    have h := hs5.rd
    rw [keyHead_vs, h3, show (n3 : Int) % 256 = n3 by have := G.out; omega]
    simpa [List.replicate] using h
  simp only [Nat.zero_add] at hc3 hf3 hb5 hr5
  have hs4 : (w4.setCell ⟨w.heap.size, 3, none⟩ (.int .u8 (n3 : Int))).heap.size = w4.heap.size := by simp
  have HR := Lib.hid hr5
  have HB := Lib.hid hb5
  clear hb5 hr5 hs5 hb4 hown4 hg4 HB0 HS0 hsz hc0 hf0
  go_wp2_with (at_builtin; refine Held.on ?_)
  generalize w4.setCell ⟨w.heap.size, 3, none⟩ (.int .u8 (n3 : Int)) = w5 at *
  simp only [← hs4]
  have R1 := Lib.hid (hr1.keep HB.out)
  have R2 := Lib.hid (hr2.keep HB.out)
  have R3 := Lib.hid (hr3.keep HB.out)
  have HSZ := Lib.hid HB.out.size
  clear hs4 hc3 hf3 hr1 hr2 hr3 hw3
  refine held_append rfl (.tmp 25) (.tmp 26) 31 31 rfl w5.heap.size 5 _ 1 1 Try.underlying31 (.inl Try.underlying31) u8info rfl (by omega) (xs := []) (ys := vs l1) rfl rfl (Own.empty _ _ _ _) ⟨by rw [vs_length]; omega, vs_one _, .inl ⟨_, _, rfl, R1.out.keep (below_alloc _ _)⟩⟩ (by have := G.out; omega) (by have := G.out; simp only [maxLen]; omega) (by simp) ?_
  intro A6 c6 w6 hO6 hg6 hor6
  have hA6 : Hi w5.heap.size A6 := (show Hi w5.heap.size (some ⟨w5.heap.size, 0, none⟩) from .inr ⟨_, rfl, Nat.le_refl _⟩).new hor6 (by simp)
  have B6 : Hid (Below w5.heap.size w5 w6) := ((Tch.alloc w5 _).then (Tch.grown hg6) (by simp)).toBelow (Nat.le_refl _)
  rw [Nat.zero_add, List.nil_append] at hO6
  have HO6 := Lib.hid hO6
  clear hO6 hg6 hor6
  go_wp2_with (at_builtin; refine Held.on ?_)
  refine held_append rfl (.tmp 28) (.tmp 29) 31 31 rfl w5.heap.size 5 _ 1 1 Try.underlying31 (.inl Try.underlying31) u8info rfl (by omega) (ys := vs (l2)) rfl rfl HO6.out ⟨by rw [vs_length]; omega, vs_one _, .inl ⟨_, _, rfl, R2.out.keep B6.out⟩⟩ (by have := G.out; omega) (by have := G.out; simp only [maxLen]; omega) B6.out.size ?_
  intro A7 c7 w7 hO7 hg7 hor7
  have hA7 : Hi w5.heap.size A7 := hA6.new hor7 B6.out.size
  have B7 : Hid (Below w5.heap.size w5 w7) := ((Tch.below B6.out []).then (Tch.grown hg7) (fun k hk => .inr (hA6.inn k hk))).toBelow (Nat.le_refl _)
  have HO7 := Lib.hid hO7
  clear hO7 hg7 hor7
  go_wp2_with (at_builtin; refine Held.on ?_)
  refine held_append rfl (.tmp 31) (.tmp 32) 31 31 rfl w5.heap.size 5 _ 1 1 Try.underlying31 (.inl Try.underlying31) u8info rfl (by omega) (ys := vs (keyHead m l3.length)) rfl rfl HO7.out ⟨by rw [vs_length]; exact keyHead_length _ _, vs_one _, .inl ⟨_, _, rfl, HR.out.keep B7.out⟩⟩ (by have := G.out; omega) (by have := G.out; simp only [maxLen]; omega) B7.out.size ?_
  intro A8 c8 w8 hO8 hg8 hor8
  have hA8 : Hi w5.heap.size A8 := hA7.new hor8 B7.out.size
  have B8 : Hid (Below w5.heap.size w5 w8) := ((Tch.below B7.out []).then (Tch.grown hg8) (fun k hk => .inr (hA7.inn k hk))).toBelow (Nat.le_refl _)
  have HO8 := Lib.hid hO8
  clear hO8 hg8 hor8
  go_wp2_with (at_builtin; refine Held.on ?_)
  refine held_append rfl (.tmp 34) (.tmp 35) 31 31 rfl w5.heap.size 5 _ 1 1 Try.underlying31 (.inl Try.underlying31) u8info rfl (by omega) (ys := vs (l3)) rfl rfl HO8.out ⟨by rw [vs_length]; omega, vs_one _, .inl ⟨_, _, rfl, R3.out.keep B8.out⟩⟩ (by have := G.out; omega) (by have := G.out; simp only [maxLen]; omega) B8.out.size ?_
  intro A9 c9 w9 hO9 hg9 hor9
  have hA9 : Hi w5.heap.size A9 := hA8.new hor9 B8.out.size
  have B9 : Hid (Below w5.heap.size w5 w9) := ((Tch.below B8.out []).then (Tch.grown hg9) (fun k hk => .inr (hA8.inn k hk))).toBelow (Nat.le_refl _)
  have HO9 := Lib.hid hO9
  clear hO9 hg9 hor9
  go_wp2_with fail
  go_ret
  refine ⟨_, _, _, rfl, ?_, ?_, below_two HB.out B9.out⟩
  · simp [keyText, keyHead_length]; omega
  · have h := HO9.out.rd
    simpa [keyText, vs_append] using h
theorem keyBytes_any (A1 A2 A3 : Option Addr) (n1 n2 n3 c1 c2 c3 : Nat) (l1 l2 l3 : List UInt8) (h1 : l1.length = n1) (h2 : l2.length = n2) (h3 : l3.length = n3) (m : Nat)
    (g1 : n1 ≤ 2147483647) (g2 : n2 ≤ 2147483647) (g3 : n3 ≤ 255) (w : World) (hr1 : Rd w A1 (vs l1)) (hr2 : Rd w A2 (vs l2)) (hr3 : Rd w A3 (vs l3)) :
    Calls Try.prog 10 #[.slice A1 n1 c1, .slice A2 n2 c2, .slice A3 n3 c3, .int .u16 m] w fun e w' => ∃ A' n' c', e = .returned (.slice A' n' c') ∧ (keyText l1 l2 l3 m).length = n' ∧ Rd w' A' (vs (keyText l1 l2 l3 m)) ∧ Below w.heap.size w w' := by
  have HC := Lib.hid (valueKey_any A1 A2 A3 n1 n2 n3 c1 c2 c3 l1 l2 l3 h1 h2 h3 m g1 g2 g3 w hr1 hr2 hr3)
  clear h1 h2 h3 g1 g2 g3 hr1 hr2 hr3
  go_enter Try.func10, Try.ntmps10
  go_wp2_with fail
  refine HC.out.mono ?_
  rintro e w2 ⟨A', n', c', rfl, hn', hr, hb2⟩
  go_wp2_with fail
  go_ret
  exact ⟨_, _, _, rfl, hn', hr, hb2⟩
theorem keyMessage_any (l1 l2 l3 : List UInt8) (m : Nat) (g1 : l1.length ≤ 2147483647) (g2 : l2.length ≤ 2147483647) (g3 : l3.length ≤ 255) (w : World) :
    Calls Try.prog 5 #[.string (S l1), .string (S l2), .string (S l3), .int .u16 m] w fun e w' => e = .returned (.string (S (keyText l1 l2 l3 m))) ∧ Below w.heap.size w w' := by
  have G : Hid (l1.length ≤ 2147483647 ∧ l2.length ≤ 2147483647 ∧ l3.length ≤ 255) := ⟨g1, g2, g3⟩
  clear g1 g2 g3
  go_enter Try.func5, Try.ntmps5
  go_wp2_with fail
  refine upon_conv_sb 9 31 5 Try.underlying9 Try.underlying31 Try.underlying5 l1 (by have := G.out; simp only [maxLen]; omega) ?_
  intro c1 w1 hown1 hb1 hsz1
  go_wp2_with fail
  refine upon_conv_sb 9 31 5 Try.underlying9 Try.underlying31 Try.underlying5 l2 (by have := G.out; simp only [maxLen]; omega) ?_
  intro c2 w2 hown2 hb2 hsz2
  go_wp2_with fail
  refine upon_conv_sb 9 31 5 Try.underlying9 Try.underlying31 Try.underlying5 l3 (by have := G.out; simp only [maxLen]; omega) ?_
  intro c3 w3 hown3 hb3 hsz3
  go_wp2_with fail
  refine (keyBytes_any _ _ _ _ _ _ c1 c2 c3 l1 l2 l3 rfl rfl rfl m G.out.1 G.out.2.1 G.out.2.2 w3 ((hown1.rd.keep hb2).keep hb3) (hown2.rd.keep hb3) hown3.rd).mono ?_
  rintro e w4 ⟨A', n', c', rfl, hn', hr, hb4⟩
  go_wp2_with fail
  refine upon_conv_bs 31 9 5 Try.underlying31 Try.underlying5 Try.underlying9 _ _ _ _ hn' hr ?_
  go_wp2_with fail
  go_ret
  exact ⟨rfl, below_two (below_two (below_two hb1 hb2) hb3) hb4⟩
end Go.Proofs.Ytkcacppcendhmaa
