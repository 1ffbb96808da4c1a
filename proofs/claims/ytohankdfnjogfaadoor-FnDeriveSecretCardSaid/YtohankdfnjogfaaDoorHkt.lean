/- Walks: the label of a derived secret, in the specification; the law. -/
import Derived.Test.YtohankdfnjogfaaDoorHks
namespace Go.Proofs.YtohankdfnjogfaaDoor
open Go.RowKit Go.Cv
set_option maxRecDepth 100000
set_option linter.unusedVariables false
set_option maxHeartbeats 2000000 in
theorem s_hkdfLabel (kind : Nat) (hk : kind < 64) (key label ctx : List UInt8) (hs1 : key.length ≤ 50000) (hl1 : 1 ≤ label.length) (hl2 : label.length ≤ 249) (hcl : ctx.length = toySize kind) (w : World) :
    Calls Tryd.prog 14 #[.int .i64 (kind : Nat), .string (S key), .string (S label), .string (S ctx), .int .i64 (toySize kind : Nat)] w fun e w' => e = .returned (.tuple #[.string (S (toyHmac kind key (hkInfo (toySize kind) label ctx ++ [1]))), .bool true]) ∧ Below w.heap.size w w' := by
  have HZ := Lib.hid (fun W => s_size kind hk W)
  have HX := Lib.hid (fun info hi W => s_expand kind hk key info hs1 hi W)
  have hs32 := toySize_le kind
  have hs0 : 4 ≤ toySize kind := by unfold toySize; omega
  obtain ⟨s, hs⟩ : ∃ s, toySize kind = s := ⟨_, rfl⟩
  rw [hs] at HZ HX hs32 hs0 hcl ⊢
  obtain ⟨L, hL⟩ : ∃ L, label.length = L := ⟨_, rfl⟩
  obtain ⟨n1, hn1⟩ : ∃ n, 6 + L = n := ⟨_, rfl⟩
  rw [hL] at hl1 hl2
  have z1 : (S label).size = L := by rw [S_size, hL]
  have z2 : (S ctx).size = s := by rw [S_size, hcl]
  have a1 : (6 : Int) + (L : Int) = (n1 : Int) := by omega
  have Ha2 : Hid (wrap64 ((n1 : Int)) = n1) := Lib.hid (by unfold wrap64; omega)
  have Ha2' : Hid (IntKind.i64.wrap (n1 : Int) = n1) := Lib.hid (by rw [IntKind.wrap_i64]; omega)
  have Ha3 : Hid (IntKind.u8.wrap (n1 : Int) = n1) := Lib.hid (by rw [IntKind.wrap_u8]; omega)
  have Ha4 : Hid (IntKind.u8.wrap (s : Int) = s) := Lib.hid (by rw [IntKind.wrap_u8]; omega)
  have Ha5 : Hid (wrap64 (255 * (s : Int)) = 255 * (s : Int)) := Lib.hid (by unfold wrap64; omega)
  have t1 : ((L : Int) == 0) = false := by simp; omega
  have t1' : ¬ L = 0 := by omega
  have t2 : decide ((255 : Int) < n1) = false := by simp; omega
  have t2' : ¬ 255 < n1 := by omega
  have t3 : decide ((255 : Int) < s) = false := by simp; omega
  have t3' : ¬ 255 < s := by omega
  have t4 : decide ((65535 : Int) < s) = false := by simp; omega
  have t4' : ¬ 65535 < s := by omega
  have t5 : decide (255 * (s : Int) < s) = false := by simp; omega
  have t5' : ¬ (255 * (s : Int) < s) := by omega
  have t6 : decide ((s : Int) < 0) = false := by simp
  obtain ⟨kb, eb⟩ : ∃ k : List UInt8, be 2 s = k := ⟨_, rfl⟩
  obtain ⟨k3, e3⟩ : ∃ k : List UInt8, be 1 n1 = k := ⟨_, rfl⟩
  obtain ⟨kl, el⟩ : ∃ k : List UInt8, be 1 s = k := ⟨_, rfl⟩
  obtain ⟨q1, d1⟩ : ∃ k : List UInt8, kb ++ k3 = k := ⟨_, rfl⟩
  obtain ⟨q2, d2⟩ : ∃ k : List UInt8, q1 ++ dtls13 = k := ⟨_, rfl⟩
  obtain ⟨q3, d3⟩ : ∃ k : List UInt8, q2 ++ label = k := ⟨_, rfl⟩
  obtain ⟨q4, d4⟩ : ∃ k : List UInt8, q3 ++ kl = k := ⟨_, rfl⟩
  obtain ⟨q5, d5⟩ : ∃ k : List UInt8, q4 ++ ctx = k := ⟨_, rfl⟩
  have hq : hkInfo s label ctx = q5 := by
    have hdl : (dtls13 ++ label).length = n1 := by rw [List.length_append, hL, ← hn1]; rfl
    rw [← d5, ← d4, ← d3, ← d2, ← d1, ← el, ← eb, ← e3, hkInfo, hdl, hcl]; simp only [List.append_assoc]
  have nb : kb.length = 2 := by rw [← eb]; exact be_length _ _
  have n3 : k3.length = 1 := by rw [← e3]; exact be_length _ _
  have nl : kl.length = 1 := by rw [← el]; exact be_length _ _
  have nd : dtls13.length = 6 := rfl
  have m1 : q1.length = kb.length + k3.length := by rw [← d1, List.length_append]
  have m2 : q2.length = q1.length + dtls13.length := by rw [← d2, List.length_append]
  have m3 : q3.length = q2.length + label.length := by rw [← d3, List.length_append]
  have m4 : q4.length = q3.length + kl.length := by rw [← d4, List.length_append]
  have m5 : q5.length = q4.length + ctx.length := by rw [← d5, List.length_append]
  have ha1 := fun w => run_add_eq (P := Tryd.prog) kb k3 q1 d1 (by omega) w
  have ha2 : ∀ w, (Op.stringOp .add (S q1) (ByteArray.mk #[100, 116, 108, 115, 49, 51])).run Tryd.prog w = .ok (.string (S q2)) w := fun w => run_add_eq (P := Tryd.prog) q1 dtls13 q2 d2 (by omega) w
  have ha3 := fun w => run_add_eq (P := Tryd.prog) q2 label q3 d3 (by omega) w
  have ha4 := fun w => run_add_eq (P := Tryd.prog) q3 kl q4 d4 (by omega) w
  have ha5 := fun w => run_add_eq (P := Tryd.prog) q4 ctx q5 d5 (by omega) w
  have hc3 := conv_rowH k3 (.int .u8 (n1 : Int)) (by rw [← e3, be1h, show (n1 : Int) % 256 = n1 by omega])
  have hcl' := conv_rowH kl (.int .u8 (s : Int)) (by rw [← el, be1h, show (s : Int) % 256 = s by omega])
  have HC : Hid (∀ W, Calls Tryd.prog 18 #[.int .i64 s] W fun e w' => e = .returned (.string (S kb)) ∧ Below W.heap.size W w') := by
    intro W; rw [← eb]; exact keyTwoH s (by omega) W
  have HE := Lib.hid (HX.out q5 (by omega))
  rw [hq]
  have hA := fun (W : World) (o : Obj) (b i : Nat) (h : b < W.heap.size) => (below_alloc W o).cell (p := ⟨b, i, none⟩) h
  clear d1 d2 d3 d4 d5 m1 m2 m3 m4 m5 n3 nb nl nd e3 eb el hq hL hn1 hl1 hl2 hcl hs1 hk hs HX
  have a2 := Ha2.out
  have a3 := Ha3.out
  have a2' := Ha2'.out
  have a4 := Ha4.out
  have a5 := Ha5.out
  clear Ha2 Ha2' Ha3 Ha4 Ha5
  go_enter Tryd.func14, Tryd.ntmps14
  go_wp2_with fail
  refine (HZ.out w).mono ?_
  rintro e w1 ⟨rfl, rfl⟩
  go_wp2_with fail
  clear t1 t1' t2 t2' t3 t3' t4 t4' t5 t5' t6 a5
  go_region_with (first
    | (go_at_call 18; refine (HC.out _).mono ?_; rintro e w2 ⟨rfl, hb2⟩; have hk2 := cells_keptH hb2; have hz2 := hb2.size; simp only [World.size_alloc, World.size_drew] at hz2; (try have z0 : w.heap.size < w2.heap.size := by omega); (try have z1 : w.heap.size + 1 < w2.heap.size := by omega); (try have y0 : ¬ w2.heap.size = w.heap.size := by omega); (try have y1 : ¬ w2.heap.size = w.heap.size + 1 := by omega); (first | have k0 : w2.cell? ⟨w.heap.size, 0, none⟩ = some (.int .u8 n1) := by rw [hk2 _ _ (by first | (simp; done) | (simp; omega))]; simp | have k0 : w2.cell? ⟨w.heap.size, 0, none⟩ = some (.int .u8 s) := by rw [hk2 _ _ (by first | (simp; done) | (simp; omega))]; simp | skip); (first | have k1 : w2.cell? ⟨w.heap.size + 1, 0, none⟩ = some (.int .u8 n1) := by rw [hk2 _ _ (by first | (simp; done) | (simp; omega))]; simp | have k1 : w2.cell? ⟨w.heap.size + 1, 0, none⟩ = some (.int .u8 s) := by rw [hk2 _ _ (by first | (simp; done) | (simp; omega))]; simp | skip); clear hk2 hz2))
  all_goals
    go_wp2_with fail
    refine (HE.out _).mono ?_
    rintro e w9 ⟨rfl, hb9⟩
    go_wp2_with fail
    go_ret2
    have hB : Below w.heap.size w w9 := by
      refine below_two ?_ hb9
      repeat refine Below.alloc ?_ (by have := hb2.size; simp only [World.size_alloc, World.size_drew] at *; omega) _
      refine below_two ?_ hb2
      (repeat (first | assumption | exact Below.refl _ _ | refine Below.drew ?_ | refine Below.setCell ?_ (by first | omega | (simp; done) | (simp; omega)) _ | refine Below.alloc ?_ (by first | omega | (simp; done) | (simp; omega)) _))
    first | exact ⟨rfl, hB⟩ | exact ⟨⟨rfl, rfl⟩, hB⟩ | exact hB
end Go.Proofs.YtohankdfnjogfaaDoor
