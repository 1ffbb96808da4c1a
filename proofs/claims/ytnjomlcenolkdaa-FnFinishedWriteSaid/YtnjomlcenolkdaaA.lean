/- Walks. -/
import Derived.Test.YtnjomlcenolkdaaProg
import Derived.Test.YtnjomlcenolkdaaOps
namespace Go.Proofs.Ytnjomlcenolkdaa
open Go.RowKit Go.Cv
set_option maxRecDepth 100000
theorem u8info : (Try.prog.info? 5).map (fun i => (i.zero, i.size, i.bytes)) = some (some (.int .u8 0), 1, 1) := by kernel_rfl

theorem makeFinished_any (l : List UInt8) (hl : l.length ≤ 2147483647) (w : World) (cs : Array Value) (h22 : cs[22]? = some (.string (S l))) :
    Calls Try.prog 23 #[.agg cs] w fun e w' =>
      ∃ b A c, e = .returned (.pointer (some ⟨b, 0, none⟩)) ∧ w'.cell? ⟨b, 0, none⟩ = some (.slice A l.length c) ∧ Rd w' A (vs l) ∧ Below w.heap.size w w' := by
  go_enter Try.func23, Try.ntmps23
  go_wp2_with fail
  refine upon_conv_sb 9 26 5 Try.underlying9 Try.underlying26 Try.underlying5 l (by simp only [maxLen]; omega) ?_
  intro c w1 hown hb hlt
  simp only [World.size_alloc] at hown hb hlt
  go_wp2_with fail
  go_ret
  refine ⟨w1.heap.size, some ⟨w.heap.size + 1, 0, none⟩, c, rfl, by simp, ?_, ?_⟩
  · exact (hown.keep ((Below.refl _ _).alloc (Nat.le_refl _) _)).rd
  · exact (((Below.refl _ w).alloc (Nat.le_refl _) _).trans (hb.mono (by omega))).alloc (by omega) _

theorem marshalFinished_any (b : Nat) (A : Option Addr) (c : Nat) (l : List UInt8) (hl : l.length ≤ 2147483647) (w : World) (h : w.cell? ⟨b, 0, none⟩ = some (.slice A l.length c)) (hr : Rd w A (vs l)) :
    Calls Try.prog 24 #[.pointer (some ⟨b, 0, none⟩)] w fun e w' =>
      ∃ A' n' c', e = .returned (.tuple #[.slice A' n' c', .nilIface]) ∧ l.length = n' ∧ Rd w' A' (vs l) ∧ Below w.heap.size w w' := by
  have hb0 := block_lt h
  go_enter Try.func24, Try.ntmps24
  go_wp2_with (at_builtin; refine Held.on ?_)
  have h0 : Own (w.alloc (.cells #[] 5)) w.heap.size 1 (some ⟨w.heap.size, 0, none⟩) 0 0 [] := Own.empty _ _ _ _
  refine held_append rfl (.tmp 4) (.tmp 8) 26 26 rfl w.heap.size 5 _ 1 1 Try.underlying26 (.inl Try.underlying26) u8info rfl (by omega) (xs := []) (ys := vs l) rfl rfl h0
    ⟨by rw [vs_length]; omega, vs_one l, .inl ⟨A, c, rfl, hr.keep ((Below.refl _ _).alloc (Nat.le_refl _) _)⟩⟩ (by omega) (by simp only [maxLen]; omega) (by simp) ?_
  intro A' c' w1 hown hg hor
  have hbl := below_grown hg h0 (by simp) (fun _ => .inr ⟨_, _, rfl, Nat.le_refl _⟩)
  go_wp2_with fail
  go_ret2
  exact ⟨_, _, _, rfl, by omega, hown.rd, ((Below.refl _ w).alloc (Nat.le_refl _) _).trans hbl⟩

theorem text_any (A : Option Addr) (n c : Nat) (l : List UInt8) (hl : l.length = n) (w : World) (hr : Rd w A (vs l)) :
    Calls Try.prog 22 #[.slice A n c, .nilIface] w fun e w' => e = .returned (.tuple #[.string (S l), .bool true]) ∧ w = w' := by
  go_enter Try.func22, Try.ntmps22
  go_wp2_with fail
  refine upon_conv_bs 26 9 5 Try.underlying26 Try.underlying5 Try.underlying9 l A n c hl hr ?_
  go_wp2_with fail
  go_ret2
  exact ⟨rfl, rfl⟩

theorem finishedWrite_any (l : List UInt8) (hl : l.length ≤ 2147483647) (w : World) (cs : Array Value) (hsz : cs.size = 25) (h22 : cs[22]? = some (.string (S l))) :
    Calls Try.prog 9 #[.agg cs] w fun e w' =>
      e = .returned (.tuple #[.string (S l), .bool true]) ∧ Below w.heap.size w w' := by
  have hi : (Try.prog.info? 33).map (·.size) = some cs.size := by rw [hsz]; kernel_rfl
  go_enter Try.func9, Try.ntmps9
  have hg := heap_alloc_new w (.cells cs 33)
  go_wp2_with (with_reducible refine wpList_load_row rfl 33 (.tmp 1) rfl w.heap.size (by with_unfolding_all rfl) 33 cs (0, 0) _ hg Try.underlying33 (by with_unfolding_all rfl) hi ?_)
  go_wp2_with fail
  refine (makeFinished_any l hl _ cs h22).mono ?_
  rintro e w1 ⟨b, A, c, rfl, hcell, hr, hb1⟩
  go_wp2_with fail
  refine (marshalFinished_any b A c l hl w1 hcell hr).mono ?_
  rintro e w2 ⟨A', n', c', rfl, hn', hr2, hb2⟩
  go_wp2_with fail
  refine (text_any A' n' c' l hn' w2 hr2).mono ?_
  rintro e w3 ⟨rfl, rfl⟩
  go_wp2_with fail
  go_ret2
  have hb1' := hb1.size
  simp only [World.size_alloc] at hb1 hb1'
  exact ⟨rfl, (((Below.refl _ w).alloc (Nat.le_refl _) _).trans (hb1.mono (by omega))).trans (hb2.mono (by omega))⟩

end Go.Proofs.Ytnjomlcenolkdaa
