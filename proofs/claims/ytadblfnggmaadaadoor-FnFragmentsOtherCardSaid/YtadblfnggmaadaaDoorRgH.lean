/- Walks: the doors to a message's pieces. -/
import Derived.Test.YtadblfnggmaadaaDoorRgG
namespace Go.Proofs.YtadblfnggmaadaaDoor
open Go.RowKit Go.Cv
set_option maxRecDepth 100000
set_option linter.unusedVariables false
def zeroRest : List Value := [.int .u8 0, .int .u32 0, .int .u8 0, .int .u32 0, .int .u16 0, .int .u32 0, .int .u32 0, .int .u16 0, .bool false]
theorem zzNew (w : World) : Calls Tryd.prog 15 #[] w fun e w' => ∃ g, e = .returned (.agg #[.pointer (some ⟨g, 0, none⟩)]) ∧ w.heap.size ≤ g ∧ Blk w' g 92 (frRow none 0 0 0 zeroRest) ∧ Below w.heap.size w w' := by
  go_enter Tryd.func15, Tryd.ntmps15
  go_wp2_with fail
  have hk := (Blk.new w 59 #[.pointer (some ⟨w.heap.size + 1, 0, none⟩)]).keep (below_alloc _ (.cells #[.slice none 0 0, .int .u32 0, .int .u8 0, .int .u32 0, .int .u8 0, .int .u32 0, .int .u16 0, .int .u32 0, .int .u32 0, .int .u16 0, .bool false] 92))
  refine bodyPost_cell rfl rfl rfl hk Tryd.underlying59 (by kernel_rfl) ⟨w.heap.size + 1, rfl, Nat.le_succ _, ?_, below_two (below_alloc _ _) (below_alloc _ _)⟩
  have h := Blk.new (w.alloc (.cells #[.pointer (some ⟨w.heap.size + 1, 0, none⟩)] 59)) 92 (frRow none 0 0 0 zeroRest)
  rw [World.size_alloc] at h
  exact h
theorem zzCov (g n c cov : Nat) (E : Option Addr) (rs : List Value) (w : World) (hg : Blk w g 92 (frRow E n c cov rs)) :
    Calls Tryd.prog 17 #[.agg #[.pointer (some ⟨g, 0, none⟩)]] w fun e w' => e = .returned (.int .u32 (cov : Nat)) ∧ Below w.heap.size w w' := by
  have h1 : (w.alloc (.cells #[.pointer (some ⟨g, 0, none⟩)] 59)).cell? ⟨g, 1, none⟩ = some (.int .u32 (cov : Nat)) := (fr1 (hg.keep (below_alloc w _))).2.1
  clear hg
  go_enter Tryd.func17, Tryd.ntmps17
  go_wp2_with fail
  first | go_ret2 | go_ret
  exact ⟨rfl, below_alloc _ _⟩
theorem zzLen (g n c cov : Nat) (E : Option Addr) (rs : List Value) (w : World) (hg : Blk w g 92 (frRow E n c cov rs)) :
    Calls Tryd.prog 18 #[.agg #[.pointer (some ⟨g, 0, none⟩)]] w fun e w' => e = .returned (.int .i64 (n : Nat)) ∧ Below w.heap.size w w' := by
  have h1 : (w.alloc (.cells #[.pointer (some ⟨g, 0, none⟩)] 59)).cell? ⟨g, 0, none⟩ = some (.slice E n c) := (fr1 (hg.keep (below_alloc w _))).1
  clear hg
  go_enter Tryd.func18, Tryd.ntmps18
  go_wp2_with fail
  first | go_ret2 | go_ret
  exact ⟨rfl, below_alloc _ _⟩
theorem zzAt (g a n c cov k : Nat) (R : List Rg) (rs : List Value) (hn : R.length = n) (r : Rg) (hr : R[k]? = some r) (w : World) (hg : Blk w g 92 (frRow (some ⟨a, 0, none⟩) n c cov rs)) (hrd : Rd w (some ⟨a, 0, none⟩) (rgs R)) :
    Calls Tryd.prog 19 #[.agg #[.pointer (some ⟨g, 0, none⟩)], .int .i64 (k : Nat)] w fun e w' => e = .returned (.tuple #[.int .u32 (r.off : Nat), .slice r.A r.l.length r.c]) ∧ Below w.heap.size w w' := by
  obtain ⟨hl, hv⟩ := List.getElem?_eq_some_iff.1 hr
  have hb := below_alloc w (.cells #[.pointer (some ⟨g, 0, none⟩)] 59)
  obtain ⟨c0, c1⟩ := rgCell (hrd.keep hb) k hl
  rw [hv, Nat.zero_add] at c0 c1
  have g0 := (fr1 (hg.keep hb)).1
  have q0 : (w.alloc (.cells #[.pointer (some ⟨g, 0, none⟩)] 59)).cell? ⟨w.heap.size, 0, none⟩ = some (.pointer (some ⟨g, 0, none⟩)) := ((Blk.new w 59 #[.pointer (some ⟨g, 0, none⟩)]).cell 0).trans rfl
  have HB := Lib.hid hb
  have t0 : k < n := by omega
  clear hg hrd hl hv hn hr hb
  go_enter Tryd.func19, Tryd.ntmps19
  go_wp2_with fail
  generalize (World.alloc w _) = w1 at *
  go_quiet (fail)
  have hbq := below_drewN (Below.refl w1.heap.size w1) nq
  have HB2 := Lib.hid (below_two HB.out hbq)
  clear hbq c0 c1 g0 q0
  generalize w1.drewN nq = w2 at *
  go_wp2_with fail
  go_ret2
  exact ⟨rfl, HB2.out⟩
theorem AddPost.back {g cov : Nat} {E : Option Addr} {R : List Rg} {rs : List Value} {f : Rg} {av : Int} {ev : Value} {w W w' : World} {e : Ending} (hb : Below w.heap.size w W) (h : AddPost g cov E R rs f av ev W e w') : AddPost g cov E R rs f av ev w e w' := by
  obtain ⟨i, hp, h⟩ := h
  refine ⟨i, hp, ?_⟩
  rcases h with ⟨h1, h2, h3⟩ | ⟨h1, h2, h3, h4⟩ | ⟨h1, h2, h3, E', n', c', k1, k2, k3, k4, k5, k6, k7⟩
  · exact .inl ⟨h1, h2, below_two hb h3⟩
  · exact .inr (.inl ⟨h1, h2, h3, below_two hb h4⟩)
  · refine .inr (.inr ⟨h1, h2, h3, E', n', c', k1, k2, k3, ?_, k5, k6, (Tch.below hb _).trans k7⟩)
    rcases k4 with h | ⟨a, h, ha⟩
    · exact .inl h
    · exact .inr ⟨a, h, Nat.le_trans hb.size ha⟩
set_option maxHeartbeats 1000000 in
theorem zzAdd (g n c cov : Nat) (E : Option Addr) (A0 : Option Addr) (m c0 : Nat) (f : Rg) (R : List Rg) (rs : List Value) (av : Int) (hn : R.length = n) (hn0 : n ≤ 1000) (hs : Small R) (hso : Sorted R) (hf : f.fin ≤ 1000000) (hm : f.l.length = m)
    (hf1 : m = 0 → f.A = none ∧ f.c = 0) (hf2 : m ≠ 0 → f.A = A0 ∧ f.c = c0) (hcov : cov ≤ 1000000) (ev : Value) (w : World) (hev : w.cell? ⟨0, 0, none⟩ = some ev)
    (hg : Blk w g 92 (frRow E n c cov rs)) (hE : Hi 0 E) (hge : E.map (·.block) ≠ some g) (hlo : Lo E w) (hO : Own w 0 2 E n c (rgs R)) :
    Calls Tryd.prog 16 #[.agg #[.pointer (some ⟨g, 0, none⟩)], .int .u32 (f.off : Nat), .slice A0 m c0, .int .i64 av] w (AddPost g cov E R rs f av ev w) := by
  have hb := below_alloc w (.cells #[.pointer (some ⟨g, 0, none⟩)] 59)
  have H := Lib.hid (add_any g n c cov E A0 m c0 f R rs av hn hn0 hs hso hf hm hf1 hf2 hcov ev _ (keep_of_below hb _ _ hev) (hg.keep hb) hE hge (hlo.mono hb.size) (hO.keep hb))
  have HB := Lib.hid hb
  clear hn hn0 hs hso hf hm hf1 hf2 hcov hev hg hE hge hlo hO hb
  go_enter Tryd.func16, Tryd.ntmps16
  go_wp2_with fail
  refine H.out.mono ?_
  rintro e w2 h2
  have h3 := AddPost.back HB.out h2
  obtain ⟨i, hp, h⟩ := h2
  clear H HB
  rcases h with ⟨h1, rfl, h4⟩ | ⟨h1, h5, rfl, h4⟩ | ⟨h1, h5, rfl, h4⟩
  all_goals
    have H3 := Lib.hid h3
    clear h3 h4 hp h1
    try clear h5
    go_wp2_with fail
    go_ret3
    exact H3.out
end Go.Proofs.YtadblfnggmaadaaDoor
