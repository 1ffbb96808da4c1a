/- Walks: the stand-in opens in place. -/
import Derived.Test.YtpedkkmoplbdhaaDoorAoA
import Derived.Test.YtpedkkmoplbdhaaDoorBase
namespace Go.Proofs.YtpedkkmoplbdhaaDoor
open Go.RowKit Go.Cv
set_option maxRecDepth 100000
set_option linter.unusedVariables false
set_option maxHeartbeats 1000000 in
theorem aeadOpenIn (key nonce sealed ad p : List UInt8) (N T : Nat) (h1 : 1 ≤ T) (h2 : T ≤ 32) (hs1 : key.length ≤ 100000) (hs2 : nonce.length ≤ 100000) (hs3 : sealed.length ≤ 100000) (hs4 : ad.length ≤ 100000) (hp : aOpen key nonce sealed ad T = some p) (A2 A3 A4 : Option Addr) (n2 n3 n4 c1 c2 c3 c4 B b k n c : Nat) (xs : List Value) (e2 : nonce.length = n2) (e3 : sealed.length = n3) (e4 : ad.length = n4) (w : World)
    (ho : Own w B 1 (some ⟨b, 0, none⟩) n c xs) (hkn : k + p.length ≤ n) (hkc : p.length ≤ c1) (r2 : Rd w A2 (vs nonce)) (r3 : Rd w A3 (vs sealed)) (r4 : Rd w A4 (vs ad)) :
    Calls Tryd.prog 134 #[.agg #[.string (S key), .int .i64 (N : Nat), .int .i64 (T : Nat)], .slice (some ⟨b, k, none⟩) 0 c1, .slice A2 n2 c2, .slice A3 n3 c3, .slice A4 n4 c4] w fun e w' => e = .returned (.tuple #[.slice (some ⟨b, k, none⟩) p.length c1, .nilIface]) ∧ Own w' B 1 (some ⟨b, 0, none⟩) n c (xs.take k ++ (vs p ++ xs.drop (k + p.length))) ∧ Tch [b] w w' := by
  have HS := Lib.hid (fun W => toyOpen key nonce sealed ad T h1 h2 hs1 hs2 hs3 hs4 W)
  have hl := aOpen_length hp
  rw [hp] at HS
  have HE := Lib.hid (And.intro e2 (And.intro e3 e4))
  have HR := Lib.hid (And.intro r2 (And.intro r3 r4))
  have HP : Hid (p.length ≤ 100000) := Lib.hid (by omega)
  have HO := Lib.hid ho
  have HKN := Lib.hid (And.intro hkn hkc)
  clear h1 h2 hs1 hs2 hs3 hs4 e2 e3 e4 r2 r3 r4 hp hl ho hkn hkc
  go_enter Tryd.func134, Tryd.ntmps134
  go_wp2_with fail
  have hb0 := below_alloc w (.cells #[.string (S key), .int .i64 (N : Nat), .int .i64 (T : Nat)] 101)
  have hc0 : (w.alloc (.cells #[.string (S key), .int .i64 (N : Nat), .int .i64 (T : Nat)] 101)).cell? ⟨w.heap.size, 2, none⟩ = some (.int .i64 (T : Nat)) := by simp
  generalize (w.alloc (.cells #[.string (S key), .int .i64 (N : Nat), .int .i64 (T : Nat)] 101)) = w0 at *
  have HB0 := Lib.hid hb0
  clear hb0
  refine upon_conv_bs 51 9 5 Tryd.underlying51 Tryd.underlying5 Tryd.underlying9 nonce A2 n2 c2 HE.out.1 (HR.out.1.keep HB0.out) ?_
  go_wp2_with fail
  refine upon_conv_bs 51 9 5 Tryd.underlying51 Tryd.underlying5 Tryd.underlying9 sealed A3 n3 c3 HE.out.2.1 (HR.out.2.1.keep HB0.out) ?_
  go_wp2_with fail
  refine upon_conv_bs 51 9 5 Tryd.underlying51 Tryd.underlying5 Tryd.underlying9 ad A4 n4 c4 HE.out.2.2 (HR.out.2.2.keep HB0.out) ?_
  go_wp2_with fail
  refine (HS.out w0).mono ?_
  rintro e w1 ⟨rfl, hb1⟩
  have HB1 := Lib.hid (below_two HB0.out hb1)
  clear hb1 hc0
  simp only [Option.getD_some, Option.isSome_some]
  go_wp2_with (at_builtin; refine Held.on ?_)
  refine held_append_in rfl (.tmp 32) (.tmp 33) 51 9 rfl B 5 (.int .u8 0) 1 Tryd.underlying51 (.inr Tryd.underlying9) t_u8info (k := k) (q := 0) (ys := vs p) (m := p.length) (Nat.zero_add k).symm rfl rfl (HO.out.keep HB1.out) ⟨by rw [vs_length]; omega, vs_one _, .inr ⟨p, rfl, rfl, rfl⟩⟩ (by have := HKN.out.1; omega) (by have := HKN.out.2; omega) ?_
  intro w9 hO9 hg9
  rw [Nat.add_zero, vs_length] at hO9
  rw [Nat.zero_add]
  have HO9 := Lib.hid hO9
  have HT9 : Hid (Tch [b] w w9) := Lib.hid ((Tch.below HB1.out _).trans (Tch.grown hg9))
  clear hO9 hg9
  go_wp2_with fail
  go_ret2
  first | exact ⟨rfl, HO9.out, HT9.out⟩ | exact ⟨⟨rfl, rfl⟩, HO9.out, HT9.out⟩ | exact ⟨HO9.out, HT9.out⟩
end Go.Proofs.YtpedkkmoplbdhaaDoor
