/- Walks: the stand-in's Seal as the library calls it; a header's size. -/
import Derived.Test.YtpedkkmoplbdhaaDoorAfT
import Derived.Test.YtpedkkmoplbdhaaDoorChG
import Derived.Test.YtpedkkmoplbdhaaDoorRec
import Derived.Test.YtpedkkmoplbdhaaDoorBase
namespace Go.Proofs.YtpedkkmoplbdhaaDoor
open Go.RowKit Go.Cv
set_option maxRecDepth 100000
set_option linter.unusedVariables false
set_option maxHeartbeats 1000000 in
theorem aeadSeal (key nonce plain ad : List UInt8) (N T : Nat) (h1 : 1 ≤ T) (h2 : T ≤ 32) (hs1 : key.length ≤ 100000) (hs2 : nonce.length ≤ 100000) (hs3 : plain.length ≤ 100000) (hs4 : ad.length ≤ 100000) (A2 A3 A4 : Option Addr) (n2 n3 n4 c2 c3 c4 : Nat) (e2 : nonce.length = n2) (e3 : plain.length = n3) (e4 : ad.length = n4) (w : World)
    (r2 : Rd w A2 (vs nonce)) (r3 : Rd w A3 (vs plain)) (r4 : Rd w A4 (vs ad)) :
    Calls Tryd.prog 136 #[.agg #[.string (S key), .int .i64 (N : Nat), .int .i64 (T : Nat)], .slice none 0 0, .slice A2 n2 c2, .slice A3 n3 c3, .slice A4 n4 c4] w fun e w' => ∃ A' c', e = .returned (.slice A' (n3 + T) c') ∧ Own w' w.heap.size 1 A' (n3 + T) c' (vs (aSeal key nonce plain ad T)) ∧ Hi w.heap.size A' ∧ Below w.heap.size w w' := by
  have HS := Lib.hid (fun W => t_seal key nonce plain ad T h1 h2 hs1 hs2 hs3 hs4 W)
  have HL := Lib.hid (aSeal_length key nonce plain ad T h2)
  have HE := Lib.hid (And.intro e2 (And.intro e3 e4))
  have HR := Lib.hid (And.intro r2 (And.intro r3 r4))
  have HB := Lib.hid (And.intro h2 hs3)
  obtain ⟨sl, hsl⟩ : ∃ s, aSeal key nonce plain ad T = s := ⟨_, rfl⟩
  rw [hsl] at HS HL ⊢
  clear h1 h2 hs1 hs2 hs3 hs4 e2 e3 e4 r2 r3 r4 hsl
  go_enter Tryd.func136, Tryd.ntmps136
  go_wp2_with fail
  have hb0 := below_alloc w (.cells #[.string (S key), .int .i64 (N : Nat), .int .i64 (T : Nat)] 101)
  have hc0 : (w.alloc (.cells #[.string (S key), .int .i64 (N : Nat), .int .i64 (T : Nat)] 101)).cell? ⟨w.heap.size, 2, none⟩ = some (.int .i64 (T : Nat)) := by simp
  generalize (w.alloc (.cells #[.string (S key), .int .i64 (N : Nat), .int .i64 (T : Nat)] 101)) = w0 at *
  have HB0 := Lib.hid hb0
  clear hb0
  refine upon_conv_bs 51 9 5 Tryd.underlying51 Tryd.underlying5 Tryd.underlying9 nonce A2 n2 c2 HE.out.1 (HR.out.1.keep HB0.out) ?_
  go_wp2_with fail
  refine upon_conv_bs 51 9 5 Tryd.underlying51 Tryd.underlying5 Tryd.underlying9 plain A3 n3 c3 HE.out.2.1 (HR.out.2.1.keep HB0.out) ?_
  go_wp2_with fail
  refine upon_conv_bs 51 9 5 Tryd.underlying51 Tryd.underlying5 Tryd.underlying9 ad A4 n4 c4 HE.out.2.2 (HR.out.2.2.keep HB0.out) ?_
  go_wp2_with fail
  refine (HS.out w0).mono ?_
  rintro e w1 ⟨rfl, hb1⟩
  have HB1 := Lib.hid (below_two HB0.out hb1)
  clear hb1 hc0
  go_wp2_with (at_builtin; refine Held.on ?_)
  have hl : sl.length = n3 + T := by rw [HL.out, HE.out.2.1]
  refine held_append rfl (.tmp 11) (.tmp 22) 51 9 rfl w.heap.size 5 _ 1 1 Tryd.underlying51 (.inr Tryd.underlying9) t_u8info rfl (by omega) (A := none) (n := 0) (c := 0) (xs := []) (ys := vs sl) (m := n3 + T) rfl rfl (Own.nil _ _ _) ⟨by rw [vs_length, hl]; omega, vs_one _, .inr ⟨sl, rfl, by first | exact hl | exact hl.symm | rfl, by first | exact hl | exact hl.symm | rfl⟩⟩ (by have := HB.out; have := HE.out.2.1; omega) (by have := HB.out; have := HE.out.2.1; simp only [maxLen]; omega) HB1.out.size ?_
  intro A9 c9 w9 hO9 hg9 hor9
  rw [Nat.zero_add, List.nil_append] at hO9
  rw [Nat.zero_add]
  have HO9 := Lib.hid hO9
  have hi9 : Hi w.heap.size A9 := Hi.new (.inl rfl) hor9 HB1.out.size
  have HI9 := Lib.hid hi9
  have HB9 := Lib.hid (below_tchA HB1.out (Tch.grown hg9) (by simp) HB1.out.size)
  clear hO9 hg9 hor9 hi9 hl
  go_wp2_with fail
  go_ret
  exact ⟨A9, c9, rfl, HO9.out, HI9.out, HB9.out⟩
theorem hdrSize (q n c ra : Nat) (w : World) (h6 : w.cell? ⟨q, 6, none⟩ = some (.slice (some ⟨ra, 0, none⟩) n c)) (hn : n ≤ 255) : Calls Tryd.prog 53 #[.pointer (some ⟨q, 0, none⟩)] w fun e w' => e = .returned (.int .i64 ((13 + n : Nat) : Int)) ∧ w = w' := by
  have e1 : IntKind.i64.wrap (13 + (n : Int)) = ((13 + n : Nat) : Int) := by rw [IntKind.wrap_i64]; omega
  have e2 : wrap64 (13 + (n : Int)) = ((13 + n : Nat) : Int) := by unfold wrap64; omega
  clear hn
  go_enter Tryd.func53, Tryd.ntmps53
  go_wp2_with fail
  go_ret
  exact ⟨rfl, rfl⟩
/-- A variable that is a row, as a row of its own. -/
theorem own_blk {w : World} {g : Nat} {t : TypeId} {cs : Array Value} (h : Blk w g t cs) (B n : Nat) (hB : B ≤ g) (hn : cs.size = n) (hm : n ≤ maxLen) : Own w B 1 (some ⟨g, 0, none⟩) n n cs.toList := by
  refine ⟨by simp [hn], Nat.le_refl _, by first | exact hm | simpa using hm, .inr ⟨g, 0, rfl, hB, ?_, ?_, ?_⟩⟩
  · intro j v hj
    rw [Nat.zero_add]
    rw [h.cell j]
    simpa using hj
  · intro j hj
    rw [Nat.zero_add, h.cell j]
    have : j < cs.size := by omega
    simp [this]
  · intro j hj
    exact h.frozen _
end Go.Proofs.YtpedkkmoplbdhaaDoor
