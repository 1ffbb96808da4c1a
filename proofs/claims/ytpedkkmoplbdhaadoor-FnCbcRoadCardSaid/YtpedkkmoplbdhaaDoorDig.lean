/- Walks: the stand-in hash as the library takes it. -/
import Derived.Test.YtpedkkmoplbdhaaDoorSumT
import Derived.Test.YtpedkkmoplbdhaaDoorBase
import Derived.Deep.RegionHeld3
import Derived.Deep.RegionHeldLaw
namespace Go.Proofs.YtpedkkmoplbdhaaDoor
open Go.RowKit Go.Cv
set_option maxRecDepth 100000
set_option linter.unusedVariables false
def foot (d : Nat) (A : Option Addr) : List Nat := d :: (A.map (·.block)).toList
/-- A hash at block d that was told the bytes l, kept in the row A. -/
structure Dg (w : World) (d kind : Nat) (A : Option Addr) (l : List UInt8) : Prop where
  ex : ∃ c, Blk w d 134 #[.int .i64 (kind : Nat), .slice A l.length c] ∧ Own w 0 1 A l.length c (vs l)
  row : A = none ∨ ∃ a, A = some ⟨a, 0, none⟩ ∧ a ≠ d ∧ a < w.heap.size
theorem Dg.lt {w : World} {d kind : Nat} {A : Option Addr} {l : List UInt8} (h : Dg w d kind A l) : ∀ k ∈ foot d A, k < w.heap.size := by
  obtain ⟨⟨c, h1, _⟩, h3⟩ := h
  intro k hk
  simp only [foot, List.mem_cons] at hk
  rcases hk with rfl | hk
  · exact h1.lt
  · rcases h3 with rfl | ⟨a, rfl, _, h4⟩
    · simp at hk
    · simp at hk; subst hk; exact h4
theorem Dg.tch {w w' : World} {d kind : Nat} {A : Option Addr} {l : List UInt8} {L : List Nat} (h : Dg w d kind A l) (ht : Tch L w w') (hn : ∀ k ∈ foot d A, k ∉ L) : Dg w' d kind A l := by
  obtain ⟨⟨c, h1, h2⟩, h3⟩ := h
  refine ⟨⟨c, h1.tch ht (hn d (by simp [foot])), h2.tch ht ?_⟩, ?_⟩
  · rcases h3 with rfl | ⟨a, rfl, _, _⟩
    · exact .inl rfl
    · exact .inr ⟨a, rfl, hn a (by simp [foot])⟩
  · rcases h3 with rfl | ⟨a, rfl, h4, h5⟩
    · exact .inl rfl
    · exact .inr ⟨a, rfl, h4, Nat.lt_of_lt_of_le h5 ht.size⟩
theorem Dg.keep {w w' : World} {d kind : Nat} {A : Option Addr} {l : List UInt8} (h : Dg w d kind A l) (hb : Below w.heap.size w w') : Dg w' d kind A l := h.tch (Tch.below hb []) (by simp)
/-- The row is the old one, or a new one. -/
def Fresh (w : World) (A A' : Option Addr) : Prop := A' = A ∨ ∃ a, A' = some ⟨a, 0, none⟩ ∧ w.heap.size ≤ a
theorem Fresh.foot {w : World} {d : Nat} {A A' : Option Addr} (h : Fresh w A A') : ∀ k ∈ foot d A', k ∈ foot d A ∨ w.heap.size ≤ k := by
  intro k hk
  rcases h with rfl | ⟨a, rfl, ha⟩
  · exact .inl hk
  · simp [Go.Proofs.YtpedkkmoplbdhaaDoor.foot] at hk ⊢
    rcases hk with rfl | rfl
    · exact .inl (.inl rfl)
    · exact .inr ha
theorem digSize (d kind : Nat) (A : Option Addr) (l : List UInt8) (hk : kind < 64) (w : World) (h : Dg w d kind A l) : Calls Tryd.prog 148 #[.pointer (some ⟨d, 0, none⟩)] w fun e w' => e = .returned (.int .i64 (toySize kind : Nat)) ∧ w = w' := by
  obtain ⟨⟨c, h1, _⟩, _⟩ := h
  have c0 := (h1.cell 0).trans (rfl : _ = some (Value.int .i64 (kind : Nat)))
  have HS := Lib.hid (t_size kind hk w)
  clear h1 hk
  go_enter Tryd.func148, Tryd.ntmps148
  go_wp2_with fail
  refine HS.out.mono ?_
  rintro e w1 ⟨rfl, rfl⟩
  go_wp2_with fail
  go_ret
  exact ⟨rfl, rfl⟩
theorem t_block (k : Nat) (h : k < 64) (w : World) : Calls Tryd.prog 151 #[.int .i64 (k : Nat)] w fun e w' => e = .returned (.int .i64 (toyBlock k : Nat)) ∧ w = w' := by
  have h8 : k / 8 < 64 := by omega
  have e1 := t_and7 (k / 8) h8
  obtain ⟨q, hq⟩ : ∃ q, k / 8 = q := ⟨_, rfl⟩
  have e0 : (k : Int) / 8 = (q : Int) := by omega
  rw [hq] at e1
  obtain ⟨p, hp⟩ : ∃ p, q % 8 = p := ⟨_, rfl⟩
  have hp8 : p < 8 := by omega
  have e2 : (8 : Int) + 8 * (p : Int) = (toyBlock k : Nat) := by rw [toyBlock, hq, hp]; push_cast; rfl
  rw [hp] at e1
  have HE := Lib.hid e2
  clear h e2 hq hp h8
  go_enter Tryd.func151, Tryd.ntmps151
  go_wp2_with fail
  go_ret
  exact ⟨by rw [← HE.out]; rfl, rfl⟩
theorem digBlock (d kind : Nat) (A : Option Addr) (l : List UInt8) (hk : kind < 64) (w : World) (h : Dg w d kind A l) : Calls Tryd.prog 146 #[.pointer (some ⟨d, 0, none⟩)] w fun e w' => e = .returned (.int .i64 (toyBlock kind : Nat)) ∧ w = w' := by
  obtain ⟨⟨c, h1, _⟩, _⟩ := h
  have c0 := (h1.cell 0).trans (rfl : _ = some (Value.int .i64 (kind : Nat)))
  have HS := Lib.hid (t_block kind hk w)
  clear h1 hk
  go_enter Tryd.func146, Tryd.ntmps146
  go_wp2_with fail
  refine HS.out.mono ?_
  rintro e w1 ⟨rfl, rfl⟩
  go_wp2_with fail
  go_ret
  exact ⟨rfl, rfl⟩
theorem digReset (d kind : Nat) (A : Option Addr) (l : List UInt8) (w : World) (h : Dg w d kind A l) : Calls Tryd.prog 147 #[.pointer (some ⟨d, 0, none⟩)] w fun e w' => e = .returned (.tuple #[]) ∧ Dg w' d kind none [] ∧ Tch [d] w w' := by
  obtain ⟨⟨c, h1, _⟩, _⟩ := h
  have c1 := (h1.cell 1).trans (rfl : _ = some (Value.slice A l.length c))
  have f1 := h1.frozen 1
  have HB := Lib.hid h1
  clear h1
  go_enter Tryd.func147, Tryd.ntmps147
  go_wp2_with fail
  first | go_end0 | refine bodyPost_ret (results_none rfl _ _ _) rfl ?_
  exact ⟨rfl, ⟨⟨0, by have := HB.out.set_ 1 (.slice none 0 0); simpa using this, Own.nil _ _ _⟩, .inl rfl⟩, Tch.set _ _ _ _⟩
theorem hashOne (b kind : Nat) (w : World) (h : w.cell? ⟨b, 0, none⟩ = some (.int .i64 (kind : Nat))) : Calls Tryd.prog 70 #[.pointer (some ⟨b, 0, none⟩)] w fun e w' => ∃ d, e = .returned (.iface 132 (.pointer (some ⟨d, 0, none⟩))) ∧ Dg w' d kind none [] ∧ w.heap.size ≤ d ∧ Below w.heap.size w w' := by
  go_enter Tryd.func70, Tryd.ntmps70
  go_wp2_with fail
  go_ret
  exact ⟨_, rfl, ⟨⟨0, Blk.new _ _ _, Own.nil _ _ _⟩, .inl rfl⟩, Nat.le_refl _, below_alloc _ _⟩
set_option maxHeartbeats 1000000 in
theorem digWrite (d kind : Nat) (A : Option Addr) (l k : List UInt8) (Y : Option Addr) (n cY : Nat) (hn : k.length = n) (hs : l.length + n ≤ 1000000) (w : World) (h : Dg w d kind A l) (hr : Rd w Y (vs k)) :
    Calls Tryd.prog 150 #[.pointer (some ⟨d, 0, none⟩), .slice Y n cY] w fun e w' => e = .returned (.tuple #[.int .i64 (n : Nat), .nilIface]) ∧ ∃ A', Dg w' d kind A' (l ++ k) ∧ Fresh w A A' ∧ Tch (foot d A) w w' := by
  obtain ⟨⟨c, h1, h2⟩, h3⟩ := h
  have c1 := (h1.cell 1).trans (rfl : _ = some (Value.slice A l.length c))
  have f1 := h1.frozen 1
  have hlt := h1.lt
  have HB := Lib.hid h1
  have HO := Lib.hid h2
  have HW := Lib.hid h3
  have HN := Lib.hid hn
  have HR := Lib.hid hr
  have HS := Lib.hid hs
  clear h1 h2 h3 hn hr hs
  go_enter Tryd.func150, Tryd.ntmps150
  go_wp2_with (at_builtin; refine Held.on ?_)
  refine held_append2 rfl (.tmp 10) (.tmp 11) 51 51 rfl 0 5 _ 1 1 Tryd.underlying51 (.inl Tryd.underlying51) t_u8info rfl (by omega) (xs := vs l) (ys := vs k) rfl rfl HO.out ⟨by rw [vs_length, HN.out]; omega, vs_one _, .inl ⟨Y, cY, rfl, HR.out⟩⟩ (by have := HS.out; omega) (by have := HS.out; simp only [maxLen]; omega) (Nat.zero_le _) ?_
  intro A2 c2 w2 hO2 hg2 hor2
  have t2 : Tch (A.map (·.block)).toList w w2 := Tch.grown hg2
  have hnd : d ∉ (A.map (·.block)).toList := by
    rcases HW.out with rfl | ⟨a, rfl, ha, _⟩
    · simp
    · simp; exact fun e => ha e.symm
  have hk2 := HB.out.tch t2 hnd
  have c1 := (hk2.cell 1).trans (rfl : _ = some (Value.slice A l.length c))
  have f1 := hk2.frozen 1
  have TS := Tch.set w2 d 1 (.slice A2 (l.length + n) c2)
  have hrow : A2 = none ∨ ∃ a, A2 = some ⟨a, 0, none⟩ ∧ a ≠ d ∧ a < w2.heap.size := by
    rcases hor2 with ⟨rfl, _⟩ | ⟨rfl, hgt⟩
    · rcases HW.out with rfl | ⟨a, rfl, ha, hl⟩
      · exact .inl rfl
      · exact .inr ⟨a, rfl, ha, Nat.lt_of_lt_of_le hl t2.size⟩
    · exact .inr ⟨_, rfl, by omega, hO2.lo (by omega) _ rfl⟩
  have hfr : Fresh w A A2 := by
    rcases hor2 with ⟨rfl, _⟩ | ⟨rfl, _⟩
    · exact .inl rfl
    · exact .inr ⟨_, rfl, Nat.le_refl _⟩
  have hlen : (l ++ k).length = l.length + n := by rw [List.length_append, HN.out]
  have hD : Hid (Dg (w2.setCell ⟨d, 1, none⟩ (.slice A2 (l.length + n) c2)) d kind A2 (l ++ k)) := Lib.hid ⟨⟨c2, by rw [hlen]; have := hk2.set_ 1 (.slice A2 (l.length + n) c2); simpa using this, by
    rw [hlen, vs_append]
    refine hO2.tch TS ?_
    rcases hrow with rfl | ⟨a, rfl, ha, _⟩
    · exact .inl rfl
    · exact .inr ⟨a, rfl, by simpa using ha⟩⟩, by
    rcases hrow with rfl | ⟨a, rfl, ha, hl⟩
    · exact .inl rfl
    · exact .inr ⟨a, rfl, ha, Nat.lt_of_lt_of_le hl TS.size⟩⟩
  have HF := Lib.hid hfr
  have HT : Hid (Tch (foot d A) w (w2.setCell ⟨d, 1, none⟩ (.slice A2 (l.length + n) c2))) := Lib.hid ((t2.more (fun q hq => .inl (by simp only [foot, List.mem_cons]; exact .inr hq))).trans (TS.more (by simp [foot])))
  clear hO2 hg2 hor2 t2 hnd hk2 TS hrow hfr hlen
  go_wp2_with fail
  go_ret2
  exact ⟨rfl, A2, hD.out, HF.out, HT.out⟩
/-- What a hash tells, behind nothing. -/
theorem digSum (d kind : Nat) (A : Option Addr) (l : List UInt8) (hk : kind < 64) (hl : l.length ≤ 1000000) (w : World) (h : Dg w d kind A l) :
    Calls Tryd.prog 149 #[.pointer (some ⟨d, 0, none⟩), .slice none 0 0] w fun e w' => ∃ A' c', e = .returned (.slice A' (toySize kind) c') ∧ Own w' w.heap.size 1 A' (toySize kind) c' (vs (toySum kind l)) ∧ Hi w.heap.size A' ∧ Below w.heap.size w w' := by
  obtain ⟨⟨c, h1, h2⟩, h3⟩ := h
  have HX : Hid (∀ w', Below w.heap.size w w' → w'.cell? ⟨d, 0, none⟩ = some (.int .i64 (kind : Nat)) ∧ w'.cell? ⟨d, 1, none⟩ = some (.slice A l.length c) ∧ (convert 51 9 (.slice A l.length c)).run Tryd.prog w' = .ok (.string (S l)) w') := Lib.hid (fun w' hb => ⟨((h1.keep hb).cell 0).trans rfl, ((h1.keep hb).cell 1).trans rfl, run_conv_bs w' _ _ 5 Tryd.underlying51 Tryd.underlying5 Tryd.underlying9 l A l.length c rfl (h2.keep hb).rd⟩)
  have HSM : Hid (∀ W, Calls Tryd.prog 141 #[.int .i64 (kind : Nat), .string (S l)] W fun e w' => e = .returned (.string (S (toySum kind l))) ∧ Below W.heap.size W w') := Lib.hid (fun W => t_sum kind l hk hl W)
  have HTL : Hid ((toySum kind l).length = toySize kind) := Lib.hid (toySum_length kind l)
  have HTB := Lib.hid (toySize_le kind)
  clear h1 h2 h3 hk hl
  obtain ⟨n, hn⟩ : ∃ n, toySize kind = n := ⟨_, rfl⟩
  rw [hn] at HTL HTB ⊢
  obtain ⟨sm, hsm⟩ : ∃ s, toySum kind l = s := ⟨_, rfl⟩
  rw [hsm] at HTL HSM ⊢
  clear hn hsm
  go_enter Tryd.func149, Tryd.ntmps149
  go_wp2_with fail
  go_region_held_law (fun w' => w'.cell? ⟨d, 0, none⟩ = some (.int .i64 (kind : Nat)) ∧ w'.cell? ⟨d, 1, none⟩ = some (.slice A l.length c) ∧ (convert 51 9 (.slice A l.length c)).run Tryd.prog w' = .ok (.string (S l)) w')
    ((refine HX.out _ ?_; (repeat (first | exact Below.refl _ _ | exact hb9 | refine below_two ?_ hb2 | refine Below.drew ?_)); done)) (first
    | (go_at_call 141; with_reducible refine (HSM.out _).mono ?_; rintro e w2 ⟨rfl, hb2⟩)
    | (refine step_append rfl (.tmp 5) (.tmp 15) 51 9 rfl w.heap.size 5 _ 1 1 Tryd.underlying51 (.inr Tryd.underlying9) t_u8info rfl (by omega) (xs := []) (ys := vs sm) (m := n) rfl rfl (Own.nil _ _ _) ⟨by rw [vs_length, HTL.out]; omega, vs_one _, .inr ⟨sm, rfl, rfl, rfl⟩⟩ (by have := HTB.out; omega) (by have := HTB.out; simp only [maxLen]; omega) (by have := hb2.size; simp at this; omega) ?_; intro A9 c9 w9 hO9 hg9 hor9; have hb9 : Below w.heap.size w w9 := below_two (below_two (below_drew w) hb2) ((Tch.grown hg9).toBelow (Nat.le_refl _))))
  have HO9 : Hid (Own w9 w.heap.size 1 A9 n c9 (vs sm)) := Lib.hid (by simpa using hO9)
  have HA9 : Hid (Hi w.heap.size A9) := Lib.hid (by rcases hor9 with ⟨rfl, _⟩ | rfl; exact .inl rfl; exact .inr ⟨_, rfl, by have := hb2.size; simp at this; exact this⟩)
  have HB9 := Lib.hid hb9
  clear hO9 hg9 hor9 hb9 hb2
  go_wp2_with fail
  go_ret
  exact ⟨A9, c9, by simp, HO9.out, HA9.out, HB9.out⟩
end Go.Proofs.YtpedkkmoplbdhaaDoor
