/- Walks: the stand-in's Open as the library calls it. -/
import Derived.Test.YtpedkkmoplbdhaaDoorAoT
import Derived.Test.YtpedkkmoplbdhaaDoorBase
namespace Go.Proofs.YtpedkkmoplbdhaaDoor
open Go.RowKit Go.Cv
set_option maxRecDepth 100000
set_option linter.unusedVariables false
theorem toyOpen (key nonce sealed ad : List UInt8) (tag : Nat) (h1 : 1 ≤ tag) (h2 : tag ≤ 32) (hs1 : key.length ≤ 100000) (hs2 : nonce.length ≤ 100000) (hs3 : sealed.length ≤ 100000) (hs4 : ad.length ≤ 100000) (w : World) :
    Calls Tryd.prog 137 #[.string (S key), .string (S nonce), .string (S sealed), .string (S ad), .int .i64 (tag : Nat)] w fun e w' => e = .returned (.tuple #[.string (S ((aOpen key nonce sealed ad tag).getD [])), .bool (aOpen key nonce sealed ad tag).isSome]) ∧ Below w.heap.size w w' := by
  by_cases hlt : sealed.length < tag
  · have ha : aOpen key nonce sealed ad tag = none := by rw [aOpen, if_pos hlt]
    rw [ha]
    exact (t_open_few key nonce sealed ad tag h2 hs3 hlt w).mono fun e w' h => ⟨h.1, by rw [← h.2]; exact Below.refl _ _⟩
  · have hn : (sealed.length - tag) + tag = sealed.length := by omega
    refine (t_open_in key nonce sealed ad tag (sealed.length - tag) h1 h2 hs1 hs2 hs3 hs4 hn _ rfl w).mono fun e w' h => ?_
    by_cases hq : aMark key nonce (aHide key nonce sealed (sealed.length - tag)) ad tag = sealed.drop (sealed.length - tag)
    · have ha : aOpen key nonce sealed ad tag = some (aHide key nonce sealed (sealed.length - tag)) := by rw [aOpen, if_neg hlt, if_pos hq]
      rw [ha]
      rw [decide_eq_true hq] at h
      exact h
    · have ha : aOpen key nonce sealed ad tag = none := by rw [aOpen, if_neg hlt, if_neg hq]
      rw [ha]
      rw [decide_eq_false hq] at h
      exact h
theorem aOpen_length {key nonce sealed ad p : List UInt8} {tag : Nat} (h : aOpen key nonce sealed ad tag = some p) : p.length + tag = sealed.length := by
  unfold aOpen at h
  split at h
  · cases h
  · split at h
    · injection h with h
      rw [← h, aHide_length]; omega
    · cases h
set_option maxHeartbeats 1000000 in
theorem aeadOpenOk (key nonce sealed ad p : List UInt8) (N T : Nat) (h1 : 1 ≤ T) (h2 : T ≤ 32) (hs1 : key.length ≤ 100000) (hs2 : nonce.length ≤ 100000) (hs3 : sealed.length ≤ 100000) (hs4 : ad.length ≤ 100000) (hp : aOpen key nonce sealed ad T = some p) (A1 A2 A3 A4 : Option Addr) (n2 n3 n4 c1 c2 c3 c4 B : Nat) (e2 : nonce.length = n2) (e3 : sealed.length = n3) (e4 : ad.length = n4) (w : World)
    (ho : Own w B 1 A1 0 c1 []) (hB : B ≤ w.heap.size) (r2 : Rd w A2 (vs nonce)) (r3 : Rd w A3 (vs sealed)) (r4 : Rd w A4 (vs ad)) :
    Calls Tryd.prog 134 #[.agg #[.string (S key), .int .i64 (N : Nat), .int .i64 (T : Nat)], .slice A1 0 c1, .slice A2 n2 c2, .slice A3 n3 c3, .slice A4 n4 c4] w fun e w' => ∃ A' c', e = .returned (.tuple #[.slice A' p.length c', .nilIface]) ∧ Own w' B 1 A' p.length c' (vs p) ∧ Tch (A1.map (·.block)).toList w w' := by
  have HS := Lib.hid (fun W => toyOpen key nonce sealed ad T h1 h2 hs1 hs2 hs3 hs4 W)
  have hl := aOpen_length hp
  rw [hp] at HS
  have HE := Lib.hid (And.intro e2 (And.intro e3 e4))
  have HR := Lib.hid (And.intro r2 (And.intro r3 r4))
  have HP : Hid (p.length ≤ 100000) := Lib.hid (by omega)
  have HO := Lib.hid ho
  have HB := Lib.hid hB
  clear h1 h2 hs1 hs2 hs3 hs4 e2 e3 e4 r2 r3 r4 hp hl ho hB
  go_enter Tryd.func134, Tryd.ntmps134
  go_wp2_with fail
  have hb0 := below_alloc w (.cells #[.string (S key), .int .i64 (N : Nat), .int .i64 (T : Nat)] 101)
  have hc0 : (w.alloc (.cells #[.string (S key), .int .i64 (N : Nat), .int .i64 (T : Nat)] 101)).cell? ⟨w.heap.size, 2, none⟩ = some (.int .i64 (T : Nat)) := by simp
  generalize (w.alloc (.cells #[.string (S key), .int .i64 (N : Nat), .int .i64 (T : Nat)] 101)) = w0 at *
  have HB0 := Lib.hid hb0
  clear hb0
  refine upon_conv_bs 51 9 5 Tryd.underlying51 Tryd.underlying5 Tryd.underlying9 nonce A2 n2 c2 HE.out.1 (HR.out.1.keep HB0.out) ?_
  go_wp2_with fail
  refine upon_conv_bs 51 9 5 Tryd.underlying51 Tryd.underlying5 Tryd.underlying9 sealed A3 n3 c3 HE.out.2.1 (HR.out.2.1.keep HB0.out) ?_
  go_wp2_with fail
  refine upon_conv_bs 51 9 5 Tryd.underlying51 Tryd.underlying5 Tryd.underlying9 ad A4 n4 c4 HE.out.2.2 (HR.out.2.2.keep HB0.out) ?_
  go_wp2_with fail
  refine (HS.out w0).mono ?_
  rintro e w1 ⟨rfl, hb1⟩
  have HB1 := Lib.hid (below_two HB0.out hb1)
  clear hb1 hc0
  simp only [Option.getD_some, Option.isSome_some]
  go_wp2_with (at_builtin; refine Held.on ?_)
  refine held_append rfl (.tmp 32) (.tmp 33) 51 9 rfl B 5 _ 1 1 Tryd.underlying51 (.inr Tryd.underlying9) t_u8info rfl (by omega) (xs := []) (ys := vs p) (m := p.length) rfl rfl (HO.out.keep HB1.out) ⟨by rw [vs_length]; omega, vs_one _, .inr ⟨p, rfl, rfl, rfl⟩⟩ (by have := HP.out; omega) (by have := HP.out; simp only [maxLen]; omega) (Nat.le_trans HB.out HB1.out.size) ?_
  intro A9 c9 w9 hO9 hg9 hor9
  rw [Nat.zero_add, List.nil_append] at hO9
  rw [Nat.zero_add]
  have HO9 := Lib.hid hO9
  have HT9 : Hid (Tch (A1.map (·.block)).toList w w9) := Lib.hid ((Tch.below HB1.out _).trans (Tch.grown hg9))
  clear hO9 hg9 hor9
  go_wp2_with fail
  go_ret2
  first | exact ⟨A9, c9, rfl, HO9.out, HT9.out⟩ | exact ⟨⟨_, _, rfl⟩, HO9.out, HT9.out⟩ | exact ⟨A9, ⟨c9, rfl⟩, HO9.out, HT9.out⟩ | exact ⟨A9, c9, ⟨rfl, rfl⟩, HO9.out, HT9.out⟩ | exact ⟨A9, c9, HO9.out, HT9.out⟩
set_option maxHeartbeats 1000000 in
theorem aeadOpenNo (key nonce sealed ad : List UInt8) (N T : Nat) (h1 : 1 ≤ T) (h2 : T ≤ 32) (hs1 : key.length ≤ 100000) (hs2 : nonce.length ≤ 100000) (hs3 : sealed.length ≤ 100000) (hs4 : ad.length ≤ 100000) (hp : aOpen key nonce sealed ad T = none) (A1 A2 A3 A4 : Option Addr) (n2 n3 n4 c1 c2 c3 c4 : Nat) (e2 : nonce.length = n2) (e3 : sealed.length = n3) (e4 : ad.length = n4) (w : World)
    (r2 : Rd w A2 (vs nonce)) (r3 : Rd w A3 (vs sealed)) (r4 : Rd w A4 (vs ad)) :
    Calls Tryd.prog 134 #[.agg #[.string (S key), .int .i64 (N : Nat), .int .i64 (T : Nat)], .slice A1 0 c1, .slice A2 n2 c2, .slice A3 n3 c3, .slice A4 n4 c4] w fun e w' => e = .returned (.tuple #[.slice none 0 0, .iface 207 (.agg #[])]) ∧ Below w.heap.size w w' := by
  have HS := Lib.hid (fun W => toyOpen key nonce sealed ad T h1 h2 hs1 hs2 hs3 hs4 W)
  rw [hp] at HS
  have HE := Lib.hid (And.intro e2 (And.intro e3 e4))
  have HR := Lib.hid (And.intro r2 (And.intro r3 r4))
  clear h1 h2 hs1 hs2 hs3 hs4 e2 e3 e4 r2 r3 r4 hp
  go_enter Tryd.func134, Tryd.ntmps134
  go_wp2_with fail
  have hb0 := below_alloc w (.cells #[.string (S key), .int .i64 (N : Nat), .int .i64 (T : Nat)] 101)
  have hc0 : (w.alloc (.cells #[.string (S key), .int .i64 (N : Nat), .int .i64 (T : Nat)] 101)).cell? ⟨w.heap.size, 2, none⟩ = some (.int .i64 (T : Nat)) := by simp
  generalize (w.alloc (.cells #[.string (S key), .int .i64 (N : Nat), .int .i64 (T : Nat)] 101)) = w0 at *
  have HB0 := Lib.hid hb0
  clear hb0
  refine upon_conv_bs 51 9 5 Tryd.underlying51 Tryd.underlying5 Tryd.underlying9 nonce A2 n2 c2 HE.out.1 (HR.out.1.keep HB0.out) ?_
  go_wp2_with fail
  refine upon_conv_bs 51 9 5 Tryd.underlying51 Tryd.underlying5 Tryd.underlying9 sealed A3 n3 c3 HE.out.2.1 (HR.out.2.1.keep HB0.out) ?_
  go_wp2_with fail
  refine upon_conv_bs 51 9 5 Tryd.underlying51 Tryd.underlying5 Tryd.underlying9 ad A4 n4 c4 HE.out.2.2 (HR.out.2.2.keep HB0.out) ?_
  go_wp2_with fail
  refine (HS.out w0).mono ?_
  rintro e w1 ⟨rfl, hb1⟩
  have HB1 := Lib.hid (below_two HB0.out hb1)
  clear hb1 hc0
  simp only [Option.getD_none, Option.isSome_none]
  go_wp2_with fail
  go_ret2
  first | exact ⟨rfl, HB1.out⟩ | exact ⟨⟨rfl, rfl⟩, HB1.out⟩ | exact HB1.out
end Go.Proofs.YtpedkkmoplbdhaaDoor
