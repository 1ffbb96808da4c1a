/- Walks: pieces of a message: whether a piece is there already. -/
import Derived.Test.YtadblfnggmaadaaDoorRgA
import Derived.Deep.RegionHeldLaw
namespace Go.Proofs.YtadblfnggmaadaaDoor
open Go.RowKit Go.Cv
set_option maxRecDepth 100000
set_option linter.unusedVariables false
def covA (R : List Rg) (i : Nat) (f : Rg) : Bool := match i with
  | 0 => false
  | i + 1 => match R[i]? with
    | some r => decide (f.fin ≤ r.fin)
    | none => false
def covC (R : List Rg) (i : Nat) (f : Rg) : Bool := match R[i]? with
  | some r => decide (r.off = f.off) && decide (f.fin ≤ r.fin)
  | none => false
set_option maxHeartbeats 2000000 in
theorem covers_t (a g o m z i c cov : Nat) (A : Option Addr) (cd : Nat) (r s : Rg) (R : List Rg) (rs : List Value) (n : Nat) (hn : R.length = n) (hn0 : n ≤ 100000)
    (hi : R[i]? = some r) (hr0 : r.fin ≤ 1000000) (ht : z ≤ r.fin) (hz : o + m = z) (hz0 : z ≤ 1000000) (w : World)
    (hg : Blk w g 92 (frRow (some ⟨a, 0, none⟩) n c cov rs)) (hr : Rd w (some ⟨a, 0, none⟩) (rgs R)) :
    Calls Tryd.prog 37 #[.pointer (some ⟨g, 0, none⟩), .int .i64 ((i + 1 : Nat) : Int), .agg #[.int .u32 (o : Nat), .slice A m cd]] w fun e w' => e = .returned (.bool (true)) ∧ Below w.heap.size w w' := by
  have g0 : w.cell? ⟨g, 0, none⟩ = some (.slice (some ⟨a, 0, none⟩) n c) := (hg.cell 0).trans (by simp [frRow])
  have HE2 := Lib.hid (fun W => end_any o m cd z A hz hz0 W)
  obtain ⟨hil, hir⟩ := List.getElem?_eq_some_iff.1 hi
  obtain ⟨c0, c1⟩ := rgCell hr i hil
  rw [hir, Nat.zero_add] at c0 c1
  have HE1 := Lib.hid (fun W => end_any r.off r.l.length r.c r.fin r.A rfl hr0 W)
  obtain ⟨x, hx⟩ : ∃ x, r.off = x := ⟨_, rfl⟩
  obtain ⟨y, hy⟩ : ∃ y, r.l.length = y := ⟨_, rfl⟩
  obtain ⟨v, hv⟩ : ∃ v, r.fin = v := ⟨_, rfl⟩
  obtain ⟨i1, hi1⟩ : ∃ i1, i + 1 = i1 := ⟨_, rfl⟩
  rw [hx] at c0 HE1
  rw [hy] at c1 HE1
  rw [hv] at HE1 ht
  have HC := Lib.hid (And.intro g0 (And.intro c0 c1))
  have q0 := Blk.new w 94 #[.int .u32 (o : Nat), .slice A m cd]
  have b0 := below_alloc w (.cells #[.int .u32 (o : Nat), .slice A m cd] 94)
  have HS : Hid (∀ W, Below (w.alloc (.cells #[.int .u32 (o : Nat), .slice A m cd] 94)).heap.size (w.alloc (.cells #[.int .u32 (o : Nat), .slice A m cd] 94)) W → W.cell? ⟨g, 0, none⟩ = some (.slice (some ⟨a, 0, none⟩) n c) ∧ W.cell? ⟨a, i * 2, none⟩ = some (.int .u32 (x : Nat)) ∧ W.cell? ⟨a, i * 2 + 1, none⟩ = some (.slice r.A y r.c) ∧ W.cell? ⟨w.heap.size, 0, none⟩ = some (.int .u32 (o : Nat)) ∧ W.cell? ⟨w.heap.size, 1, none⟩ = some (.slice A m cd)) := Lib.hid fun W hW =>
    ⟨keep_of_below (below_two b0 hW) _ _ HC.out.1, keep_of_below (below_two b0 hW) _ _ HC.out.2.1, keep_of_below (below_two b0 hW) _ _ HC.out.2.2, keep_of_below hW _ _ ((q0.cell 0).trans rfl), keep_of_below hW _ _ ((q0.cell 1).trans rfl)⟩
  have HB0 := Lib.hid b0
  have e1 : (i1 : Int) - 1 = (i : Int) := by omega
  have t0 : 0 < i1 := by omega
  have t0' : (0 : Int) < i1 := by omega
  have t1 : i < n := by omega
  have t2 : decide (z ≤ v) = true := decide_eq_true ht
  have W1 : Hid (wrap64 (i : Int) = (i : Int)) := Lib.hid (w64_all i (by omega))
  have W2 : Hid (IntKind.i64.wrap (i : Int) = (i : Int)) := Lib.hid (i64_nat i (by omega))
  rw [hi1]
  clear q0 b0 hg hr g0 hz hz0 hn hn0 c0 c1 hx hy hv hil hir hi hr0 ht hi1
  have w1 := W1.out
  have w2 := W2.out
  go_enter Tryd.func37, Tryd.ntmps37
  go_wp2_with fail
  generalize (w.alloc (.cells #[.int .u32 (o : Nat), .slice A m cd] 94)) = w3 at *
  have HS1 : Hid (∀ W, Below w3.heap.size w3 W → W.cell? ⟨g, 0, none⟩ = some (.slice (some ⟨a, 0, none⟩) n c) ∧ W.cell? ⟨a, i * 2, none⟩ = some (.int .u32 (x : Nat)) ∧ W.cell? ⟨a, i * 2 + 1, none⟩ = some (.slice r.A y r.c) ∧ W.cell? ⟨w.heap.size, 0, none⟩ = some (.int .u32 (o : Nat)) ∧ W.cell? ⟨w.heap.size, 1, none⟩ = some (.slice A m cd)) := Lib.hid (fun W hW => ⟨(HS.out W (hW)).1, (HS.out W (hW)).2.1, (HS.out W (hW)).2.2.1, (HS.out W (hW)).2.2.2.1, (HS.out W (hW)).2.2.2.2⟩)
  go_region_held_law (fun w' => w'.cell? ⟨g, 0, none⟩ = some (.slice (some ⟨a, 0, none⟩) n c) ∧ w'.cell? ⟨a, i * 2, none⟩ = some (.int .u32 (x : Nat)) ∧ w'.cell? ⟨a, i * 2 + 1, none⟩ = some (.slice r.A y r.c) ∧ w'.cell? ⟨w.heap.size, 0, none⟩ = some (.int .u32 (o : Nat)) ∧ w'.cell? ⟨w.heap.size, 1, none⟩ = some (.slice A m cd)) (first | exact HS1.out _ (Below.refl _ _) | exact HS1.out _ (below_drew _) | exact HS1.out _ (below_two (below_drew _) hb5) | exact HS1.out _ (below_two (below_two (below_drew _) hb5) hb6)) (first
    | (go_at_call 38; (with_reducible refine (HE1.out _).mono ?_); rintro e w5 ⟨rfl, hb5⟩)
    | (go_at_call 38; (with_reducible refine (HE2.out _).mono ?_); rintro e w6 ⟨rfl, hb6⟩))
  have hbb : Below w3.heap.size w3 w6 := below_two (below_two (below_drew _) hb5) hb6
  have HB1 : Hid (Below w3.heap.size w3 w6) := Lib.hid hbb
  clear hbb hb5 hb6 w1 w2 HE1 HS1
  clear e1 t0 t0' t1 W1 W2
  go_wp2_with fail
  first | go_ret2 | go_ret
  exact ⟨rfl, below_two HB0.out HB1.out⟩
set_option maxHeartbeats 2000000 in
theorem covers_zout (E : Option Addr) (a g o m z i c cov : Nat) (A : Option Addr) (cd : Nat) (r s : Rg) (R : List Rg) (rs : List Value) (n : Nat) (hn : R.length = n) (hn0 : n ≤ 100000)
    (ho : R[0]? = none) (hz : o + m = z) (hz0 : z ≤ 1000000) (w : World)
    (hg : Blk w g 92 (frRow E n c cov rs)) (hr : Rd w E (rgs R)) :
    Calls Tryd.prog 37 #[.pointer (some ⟨g, 0, none⟩), .int .i64 ((0 : Nat) : Int), .agg #[.int .u32 (o : Nat), .slice A m cd]] w fun e w' => e = .returned (.bool (false)) ∧ Below w.heap.size w w' := by
  have g0 : w.cell? ⟨g, 0, none⟩ = some (.slice E n c) := (hg.cell 0).trans (by simp [frRow])
  have HE2 := Lib.hid (fun W => end_any o m cd z A hz hz0 W)
  have HC := Lib.hid (g0)
  have q0 := Blk.new w 94 #[.int .u32 (o : Nat), .slice A m cd]
  have b0 := below_alloc w (.cells #[.int .u32 (o : Nat), .slice A m cd] 94)
  have HS : Hid (∀ W, Below (w.alloc (.cells #[.int .u32 (o : Nat), .slice A m cd] 94)).heap.size (w.alloc (.cells #[.int .u32 (o : Nat), .slice A m cd] 94)) W → W.cell? ⟨g, 0, none⟩ = some (.slice E n c) ∧ W.cell? ⟨w.heap.size, 0, none⟩ = some (.int .u32 (o : Nat)) ∧ W.cell? ⟨w.heap.size, 1, none⟩ = some (.slice A m cd)) := Lib.hid fun W hW =>
    ⟨keep_of_below (below_two b0 hW) _ _ HC.out, keep_of_below hW _ _ ((q0.cell 0).trans rfl), keep_of_below hW _ _ ((q0.cell 1).trans rfl)⟩
  have HB0 := Lib.hid b0
  have u1 : ¬ 0 < n := by have := List.getElem?_eq_none_iff.1 ho; omega
  have u2 : decide (0 < n) = false := decide_eq_false u1
  have u3 : n = 0 := by omega
  have u4 : decide ((0 : Int) < n) = false := decide_eq_false (by omega)
  clear q0 b0 hg hr g0 hz hz0 hn hn0 ho
  go_enter Tryd.func37, Tryd.ntmps37
  go_wp2_with fail
  generalize (w.alloc (.cells #[.int .u32 (o : Nat), .slice A m cd] 94)) = w3 at *
  go_quiet (fail)
  have hbq := below_drewN (Below.refl w3.heap.size w3) nq
  have HB1 := Lib.hid hbq
  clear hbq
  generalize w3.drewN nq = w6 at *
  go_wp2_with fail
  have HS2 : Hid (∀ W, Below w6.heap.size w6 W → W.cell? ⟨g, 0, none⟩ = some (.slice E n c) ∧ W.cell? ⟨w.heap.size, 0, none⟩ = some (.int .u32 (o : Nat)) ∧ W.cell? ⟨w.heap.size, 1, none⟩ = some (.slice A m cd)) := Lib.hid (fun W hW => ⟨(HS.out W (below_two HB1.out hW)).1, (HS.out W (below_two HB1.out hW)).2.1, (HS.out W (below_two HB1.out hW)).2.2⟩)
  obtain ⟨k0, k1, k2⟩ := HS2.out w6 (Below.refl _ _)
  go_quiet (fail)
  have hbq2 := below_drewN (Below.refl w6.heap.size w6) nq
  have HB2 := Lib.hid hbq2
  clear hbq2
  generalize w6.drewN nq = w8 at *
  go_wp2_with fail
  first | go_ret2 | go_ret
  exact ⟨by first | rfl | simp, below_two (below_two HB0.out HB1.out) HB2.out⟩
set_option maxHeartbeats 2000000 in
theorem covers_zne (a g o m z i c cov : Nat) (A : Option Addr) (cd : Nat) (r s : Rg) (R : List Rg) (rs : List Value) (n : Nat) (hn : R.length = n) (hn0 : n ≤ 100000)
    (ho : R[0]? = some s) (hs0 : s.fin ≤ 1000000) (hso : s.off ≠ o) (hz : o + m = z) (hz0 : z ≤ 1000000) (w : World)
    (hg : Blk w g 92 (frRow (some ⟨a, 0, none⟩) n c cov rs)) (hr : Rd w (some ⟨a, 0, none⟩) (rgs R)) :
    Calls Tryd.prog 37 #[.pointer (some ⟨g, 0, none⟩), .int .i64 ((0 : Nat) : Int), .agg #[.int .u32 (o : Nat), .slice A m cd]] w fun e w' => e = .returned (.bool (false)) ∧ Below w.heap.size w w' := by
  have g0 : w.cell? ⟨g, 0, none⟩ = some (.slice (some ⟨a, 0, none⟩) n c) := (hg.cell 0).trans (by simp [frRow])
  have HE2 := Lib.hid (fun W => end_any o m cd z A hz hz0 W)
  obtain ⟨hjl, hjr⟩ := List.getElem?_eq_some_iff.1 ho
  obtain ⟨d0, d1⟩ := rgCell hr 0 hjl
  rw [hjr, Nat.zero_add] at d0 d1
  try rw [Nat.zero_mul] at d0
  try rw [Nat.zero_mul] at d1
  have HE3 := Lib.hid (fun W => end_any s.off s.l.length s.c s.fin s.A rfl hs0 W)
  obtain ⟨x2, hx2⟩ : ∃ x2, s.off = x2 := ⟨_, rfl⟩
  obtain ⟨y2, hy2⟩ : ∃ y2, s.l.length = y2 := ⟨_, rfl⟩
  obtain ⟨v2, hv2⟩ : ∃ v2, s.fin = v2 := ⟨_, rfl⟩
  rw [hx2] at d0 HE3 hso
  rw [hy2] at d1 HE3
  rw [hv2] at HE3
  have HC := Lib.hid (And.intro g0 (And.intro d0 d1))
  have q0 := Blk.new w 94 #[.int .u32 (o : Nat), .slice A m cd]
  have b0 := below_alloc w (.cells #[.int .u32 (o : Nat), .slice A m cd] 94)
  have HS : Hid (∀ W, Below (w.alloc (.cells #[.int .u32 (o : Nat), .slice A m cd] 94)).heap.size (w.alloc (.cells #[.int .u32 (o : Nat), .slice A m cd] 94)) W → W.cell? ⟨g, 0, none⟩ = some (.slice (some ⟨a, 0, none⟩) n c) ∧ W.cell? ⟨a, 0, none⟩ = some (.int .u32 (x2 : Nat)) ∧ W.cell? ⟨a, 1, none⟩ = some (.slice s.A y2 s.c) ∧ W.cell? ⟨w.heap.size, 0, none⟩ = some (.int .u32 (o : Nat)) ∧ W.cell? ⟨w.heap.size, 1, none⟩ = some (.slice A m cd)) := Lib.hid fun W hW =>
    ⟨keep_of_below (below_two b0 hW) _ _ HC.out.1, keep_of_below (below_two b0 hW) _ _ HC.out.2.1, keep_of_below (below_two b0 hW) _ _ HC.out.2.2, keep_of_below hW _ _ ((q0.cell 0).trans rfl), keep_of_below hW _ _ ((q0.cell 1).trans rfl)⟩
  have HB0 := Lib.hid b0
  have u1 : 0 < n := by omega
  have u2 : decide (0 < n) = true := decide_eq_true u1
  have u4 : decide ((0 : Int) < n) = true := decide_eq_true (by omega)
  have u5 : (0 : Int) < n := by omega
  have u3 : ¬ x2 = o := hso
  have u6 : decide (x2 = o) = false := decide_eq_false hso
  have u7 : (x2 == o) = false := by simpa using hso
  have u8 : ((x2 : Int) == (o : Int)) = false := by simp; omega
  clear q0 b0 hg hr g0 hz hz0 hn hn0 d0 d1 hx2 hy2 hv2 hjl hjr ho hs0 hso
  go_enter Tryd.func37, Tryd.ntmps37
  go_wp2_with fail
  generalize (w.alloc (.cells #[.int .u32 (o : Nat), .slice A m cd] 94)) = w3 at *
  go_quiet (fail)
  have hbq := below_drewN (Below.refl w3.heap.size w3) nq
  have HB1 := Lib.hid hbq
  clear hbq
  generalize w3.drewN nq = w6 at *
  go_wp2_with fail
  have HS2 : Hid (∀ W, Below w6.heap.size w6 W → W.cell? ⟨g, 0, none⟩ = some (.slice (some ⟨a, 0, none⟩) n c) ∧ W.cell? ⟨a, 0, none⟩ = some (.int .u32 (x2 : Nat)) ∧ W.cell? ⟨a, 1, none⟩ = some (.slice s.A y2 s.c) ∧ W.cell? ⟨w.heap.size, 0, none⟩ = some (.int .u32 (o : Nat)) ∧ W.cell? ⟨w.heap.size, 1, none⟩ = some (.slice A m cd)) := Lib.hid (fun W hW => ⟨(HS.out W (below_two HB1.out hW)).1, (HS.out W (below_two HB1.out hW)).2.1, (HS.out W (below_two HB1.out hW)).2.2.1, (HS.out W (below_two HB1.out hW)).2.2.2.1, (HS.out W (below_two HB1.out hW)).2.2.2.2⟩)
  obtain ⟨k0, k1, k2, k3, k4⟩ := HS2.out w6 (Below.refl _ _)
  go_quiet (fail)
  have hbq2 := below_drewN (Below.refl w6.heap.size w6) nq
  have HB2 := Lib.hid hbq2
  clear hbq2
  generalize w6.drewN nq = w8 at *
  go_wp2_with fail
  first | go_ret2 | go_ret
  exact ⟨by first | rfl | simp, below_two (below_two HB0.out HB1.out) HB2.out⟩
set_option maxHeartbeats 2000000 in
theorem covers_zeq (a g o m z i c cov : Nat) (A : Option Addr) (cd : Nat) (r s : Rg) (R : List Rg) (rs : List Value) (n : Nat) (hn : R.length = n) (hn0 : n ≤ 100000)
    (ho : R[0]? = some s) (hs0 : s.fin ≤ 1000000) (hso : s.off = o) (hz : o + m = z) (hz0 : z ≤ 1000000) (w : World)
    (hg : Blk w g 92 (frRow (some ⟨a, 0, none⟩) n c cov rs)) (hr : Rd w (some ⟨a, 0, none⟩) (rgs R)) :
    Calls Tryd.prog 37 #[.pointer (some ⟨g, 0, none⟩), .int .i64 ((0 : Nat) : Int), .agg #[.int .u32 (o : Nat), .slice A m cd]] w fun e w' => e = .returned (.bool (decide (z ≤ s.fin))) ∧ Below w.heap.size w w' := by
  have g0 : w.cell? ⟨g, 0, none⟩ = some (.slice (some ⟨a, 0, none⟩) n c) := (hg.cell 0).trans (by simp [frRow])
  have HE2 := Lib.hid (fun W => end_any o m cd z A hz hz0 W)
  obtain ⟨hjl, hjr⟩ := List.getElem?_eq_some_iff.1 ho
  obtain ⟨d0, d1⟩ := rgCell hr 0 hjl
  rw [hjr, Nat.zero_add] at d0 d1
  try rw [Nat.zero_mul] at d0
  try rw [Nat.zero_mul] at d1
  have HE3 := Lib.hid (fun W => end_any s.off s.l.length s.c s.fin s.A rfl hs0 W)
  obtain ⟨y2, hy2⟩ : ∃ y2, s.l.length = y2 := ⟨_, rfl⟩
  obtain ⟨v2, hv2⟩ : ∃ v2, s.fin = v2 := ⟨_, rfl⟩
  rw [hso] at d0 HE3
  rw [hy2] at d1 HE3
  rw [hv2] at HE3
  rw [hv2]
  have HC := Lib.hid (And.intro g0 (And.intro d0 d1))
  have q0 := Blk.new w 94 #[.int .u32 (o : Nat), .slice A m cd]
  have b0 := below_alloc w (.cells #[.int .u32 (o : Nat), .slice A m cd] 94)
  have HS : Hid (∀ W, Below (w.alloc (.cells #[.int .u32 (o : Nat), .slice A m cd] 94)).heap.size (w.alloc (.cells #[.int .u32 (o : Nat), .slice A m cd] 94)) W → W.cell? ⟨g, 0, none⟩ = some (.slice (some ⟨a, 0, none⟩) n c) ∧ W.cell? ⟨a, 0, none⟩ = some (.int .u32 (o : Nat)) ∧ W.cell? ⟨a, 1, none⟩ = some (.slice s.A y2 s.c) ∧ W.cell? ⟨w.heap.size, 0, none⟩ = some (.int .u32 (o : Nat)) ∧ W.cell? ⟨w.heap.size, 1, none⟩ = some (.slice A m cd)) := Lib.hid fun W hW =>
    ⟨keep_of_below (below_two b0 hW) _ _ HC.out.1, keep_of_below (below_two b0 hW) _ _ HC.out.2.1, keep_of_below (below_two b0 hW) _ _ HC.out.2.2, keep_of_below hW _ _ ((q0.cell 0).trans rfl), keep_of_below hW _ _ ((q0.cell 1).trans rfl)⟩
  have HB0 := Lib.hid b0
  have u1 : 0 < n := by omega
  have u2 : decide (0 < n) = true := decide_eq_true u1
  have u4 : decide ((0 : Int) < n) = true := decide_eq_true (by omega)
  have u5 : (0 : Int) < n := by omega
  clear q0 b0 hg hr g0 hz hz0 hn hn0 d0 d1 hy2 hv2 hjl hjr ho hs0 hso
  go_enter Tryd.func37, Tryd.ntmps37
  go_wp2_with fail
  generalize (w.alloc (.cells #[.int .u32 (o : Nat), .slice A m cd] 94)) = w3 at *
  go_quiet (fail)
  have hbq := below_drewN (Below.refl w3.heap.size w3) nq
  have HB1 := Lib.hid hbq
  clear hbq
  generalize w3.drewN nq = w6 at *
  go_wp2_with fail
  have HS2 : Hid (∀ W, Below w6.heap.size w6 W → W.cell? ⟨g, 0, none⟩ = some (.slice (some ⟨a, 0, none⟩) n c) ∧ W.cell? ⟨a, 0, none⟩ = some (.int .u32 (o : Nat)) ∧ W.cell? ⟨a, 1, none⟩ = some (.slice s.A y2 s.c) ∧ W.cell? ⟨w.heap.size, 0, none⟩ = some (.int .u32 (o : Nat)) ∧ W.cell? ⟨w.heap.size, 1, none⟩ = some (.slice A m cd)) := Lib.hid (fun W hW => ⟨(HS.out W (below_two HB1.out hW)).1, (HS.out W (below_two HB1.out hW)).2.1, (HS.out W (below_two HB1.out hW)).2.2.1, (HS.out W (below_two HB1.out hW)).2.2.2.1, (HS.out W (below_two HB1.out hW)).2.2.2.2⟩)
  go_region_held_law (fun w' => w'.cell? ⟨g, 0, none⟩ = some (.slice (some ⟨a, 0, none⟩) n c) ∧ w'.cell? ⟨a, 0, none⟩ = some (.int .u32 (o : Nat)) ∧ w'.cell? ⟨a, 1, none⟩ = some (.slice s.A y2 s.c) ∧ w'.cell? ⟨w.heap.size, 0, none⟩ = some (.int .u32 (o : Nat)) ∧ w'.cell? ⟨w.heap.size, 1, none⟩ = some (.slice A m cd)) (first | exact HS2.out _ (Below.refl _ _) | exact HS2.out _ (below_drew _) | exact HS2.out _ (below_two (below_drew _) hb7) | exact HS2.out _ (below_two (below_two (below_drew _) hb7) hb8)) (first
    | (go_at_call 38; (with_reducible refine (HE3.out _).mono ?_); rintro e w7 ⟨rfl, hb7⟩)
    | (go_at_call 38; (with_reducible refine (HE2.out _).mono ?_); rintro e w8 ⟨rfl, hb8⟩))
  have HB2 : Hid (Below w6.heap.size w6 w8) := Lib.hid (below_two (below_two (below_drew _) hb7) hb8)
  clear hb7 hb8
  go_wp2_with fail
  first | go_ret2 | go_ret
  exact ⟨by first | rfl | simp, below_two (below_two HB0.out HB1.out) HB2.out⟩
set_option maxHeartbeats 2000000 in
theorem covers_fout (a g o m z i c cov : Nat) (A : Option Addr) (cd : Nat) (r s : Rg) (R : List Rg) (rs : List Value) (n : Nat) (hn : R.length = n) (hn0 : n ≤ 100000)
    (hi : R[i]? = some r) (hr0 : r.fin ≤ 1000000) (ht : ¬ z ≤ r.fin) (ho : R[(i + 1)]? = none) (hz : o + m = z) (hz0 : z ≤ 1000000) (w : World)
    (hg : Blk w g 92 (frRow (some ⟨a, 0, none⟩) n c cov rs)) (hr : Rd w (some ⟨a, 0, none⟩) (rgs R)) :
    Calls Tryd.prog 37 #[.pointer (some ⟨g, 0, none⟩), .int .i64 ((i + 1 : Nat) : Int), .agg #[.int .u32 (o : Nat), .slice A m cd]] w fun e w' => e = .returned (.bool (false)) ∧ Below w.heap.size w w' := by
  have g0 : w.cell? ⟨g, 0, none⟩ = some (.slice (some ⟨a, 0, none⟩) n c) := (hg.cell 0).trans (by simp [frRow])
  have HE2 := Lib.hid (fun W => end_any o m cd z A hz hz0 W)
  obtain ⟨hil, hir⟩ := List.getElem?_eq_some_iff.1 hi
  obtain ⟨c0, c1⟩ := rgCell hr i hil
  rw [hir, Nat.zero_add] at c0 c1
  have HE1 := Lib.hid (fun W => end_any r.off r.l.length r.c r.fin r.A rfl hr0 W)
  obtain ⟨x, hx⟩ : ∃ x, r.off = x := ⟨_, rfl⟩
  obtain ⟨y, hy⟩ : ∃ y, r.l.length = y := ⟨_, rfl⟩
  obtain ⟨v, hv⟩ : ∃ v, r.fin = v := ⟨_, rfl⟩
  obtain ⟨i1, hi1⟩ : ∃ i1, i + 1 = i1 := ⟨_, rfl⟩
  rw [hx] at c0 HE1
  rw [hy] at c1 HE1
  rw [hv] at HE1 ht
  have HC := Lib.hid (And.intro g0 (And.intro c0 c1))
  have q0 := Blk.new w 94 #[.int .u32 (o : Nat), .slice A m cd]
  have b0 := below_alloc w (.cells #[.int .u32 (o : Nat), .slice A m cd] 94)
  have HS : Hid (∀ W, Below (w.alloc (.cells #[.int .u32 (o : Nat), .slice A m cd] 94)).heap.size (w.alloc (.cells #[.int .u32 (o : Nat), .slice A m cd] 94)) W → W.cell? ⟨g, 0, none⟩ = some (.slice (some ⟨a, 0, none⟩) n c) ∧ W.cell? ⟨a, i * 2, none⟩ = some (.int .u32 (x : Nat)) ∧ W.cell? ⟨a, i * 2 + 1, none⟩ = some (.slice r.A y r.c) ∧ W.cell? ⟨w.heap.size, 0, none⟩ = some (.int .u32 (o : Nat)) ∧ W.cell? ⟨w.heap.size, 1, none⟩ = some (.slice A m cd)) := Lib.hid fun W hW =>
    ⟨keep_of_below (below_two b0 hW) _ _ HC.out.1, keep_of_below (below_two b0 hW) _ _ HC.out.2.1, keep_of_below (below_two b0 hW) _ _ HC.out.2.2, keep_of_below hW _ _ ((q0.cell 0).trans rfl), keep_of_below hW _ _ ((q0.cell 1).trans rfl)⟩
  have HB0 := Lib.hid b0
  have e1 : (i1 : Int) - 1 = (i : Int) := by omega
  have t0 : 0 < i1 := by omega
  have t0' : (0 : Int) < i1 := by omega
  have t1 : i < n := by omega
  have t2 : decide (z ≤ v) = false := decide_eq_false ht
  have W1 : Hid (wrap64 (i : Int) = (i : Int)) := Lib.hid (w64_all i (by omega))
  have W2 : Hid (IntKind.i64.wrap (i : Int) = (i : Int)) := Lib.hid (i64_nat i (by omega))
  have u1 : ¬ i1 < n := by have := List.getElem?_eq_none_iff.1 ho; omega
  have u2 : decide (i1 < n) = false := decide_eq_false u1
  rw [hi1]
  clear q0 b0 hg hr g0 hz hz0 hn hn0 c0 c1 hx hy hv hil hir hi hr0 ht hi1 ho
  have w1 := W1.out
  have w2 := W2.out
  go_enter Tryd.func37, Tryd.ntmps37
  go_wp2_with fail
  generalize (w.alloc (.cells #[.int .u32 (o : Nat), .slice A m cd] 94)) = w3 at *
  have HS1 : Hid (∀ W, Below w3.heap.size w3 W → W.cell? ⟨g, 0, none⟩ = some (.slice (some ⟨a, 0, none⟩) n c) ∧ W.cell? ⟨a, i * 2, none⟩ = some (.int .u32 (x : Nat)) ∧ W.cell? ⟨a, i * 2 + 1, none⟩ = some (.slice r.A y r.c) ∧ W.cell? ⟨w.heap.size, 0, none⟩ = some (.int .u32 (o : Nat)) ∧ W.cell? ⟨w.heap.size, 1, none⟩ = some (.slice A m cd)) := Lib.hid (fun W hW => ⟨(HS.out W (hW)).1, (HS.out W (hW)).2.1, (HS.out W (hW)).2.2.1, (HS.out W (hW)).2.2.2.1, (HS.out W (hW)).2.2.2.2⟩)
  go_region_held_law (fun w' => w'.cell? ⟨g, 0, none⟩ = some (.slice (some ⟨a, 0, none⟩) n c) ∧ w'.cell? ⟨a, i * 2, none⟩ = some (.int .u32 (x : Nat)) ∧ w'.cell? ⟨a, i * 2 + 1, none⟩ = some (.slice r.A y r.c) ∧ w'.cell? ⟨w.heap.size, 0, none⟩ = some (.int .u32 (o : Nat)) ∧ w'.cell? ⟨w.heap.size, 1, none⟩ = some (.slice A m cd)) (first | exact HS1.out _ (Below.refl _ _) | exact HS1.out _ (below_drew _) | exact HS1.out _ (below_two (below_drew _) hb5) | exact HS1.out _ (below_two (below_two (below_drew _) hb5) hb6)) (first
    | (go_at_call 38; (with_reducible refine (HE1.out _).mono ?_); rintro e w5 ⟨rfl, hb5⟩)
    | (go_at_call 38; (with_reducible refine (HE2.out _).mono ?_); rintro e w6 ⟨rfl, hb6⟩))
  have hbb : Below w3.heap.size w3 w6 := below_two (below_two (below_drew _) hb5) hb6
  have HB1 : Hid (Below w3.heap.size w3 w6) := Lib.hid hbb
  clear hbb hb5 hb6 w1 w2 HE1 HS1
  clear e1 t0 t0' t1 W1 W2
  go_wp2_with fail
  have HS2 : Hid (∀ W, Below w6.heap.size w6 W → W.cell? ⟨g, 0, none⟩ = some (.slice (some ⟨a, 0, none⟩) n c) ∧ W.cell? ⟨w.heap.size, 0, none⟩ = some (.int .u32 (o : Nat)) ∧ W.cell? ⟨w.heap.size, 1, none⟩ = some (.slice A m cd)) := Lib.hid (fun W hW => ⟨(HS.out W (below_two HB1.out hW)).1, (HS.out W (below_two HB1.out hW)).2.2.2.1, (HS.out W (below_two HB1.out hW)).2.2.2.2⟩)
  obtain ⟨k0, k1, k2⟩ := HS2.out w6 (Below.refl _ _)
  go_quiet (fail)
  have hbq2 := below_drewN (Below.refl w6.heap.size w6) nq
  have HB2 := Lib.hid hbq2
  clear hbq2
  generalize w6.drewN nq = w8 at *
  go_wp2_with fail
  first | go_ret2 | go_ret
  exact ⟨by first | rfl | simp, below_two (below_two HB0.out HB1.out) HB2.out⟩
set_option maxHeartbeats 2000000 in
theorem covers_fne (a g o m z i c cov : Nat) (A : Option Addr) (cd : Nat) (r s : Rg) (R : List Rg) (rs : List Value) (n : Nat) (hn : R.length = n) (hn0 : n ≤ 100000)
    (hi : R[i]? = some r) (hr0 : r.fin ≤ 1000000) (ht : ¬ z ≤ r.fin) (ho : R[(i + 1)]? = some s) (hs0 : s.fin ≤ 1000000) (hso : s.off ≠ o) (hz : o + m = z) (hz0 : z ≤ 1000000) (w : World)
    (hg : Blk w g 92 (frRow (some ⟨a, 0, none⟩) n c cov rs)) (hr : Rd w (some ⟨a, 0, none⟩) (rgs R)) :
    Calls Tryd.prog 37 #[.pointer (some ⟨g, 0, none⟩), .int .i64 ((i + 1 : Nat) : Int), .agg #[.int .u32 (o : Nat), .slice A m cd]] w fun e w' => e = .returned (.bool (false)) ∧ Below w.heap.size w w' := by
  have g0 : w.cell? ⟨g, 0, none⟩ = some (.slice (some ⟨a, 0, none⟩) n c) := (hg.cell 0).trans (by simp [frRow])
  have HE2 := Lib.hid (fun W => end_any o m cd z A hz hz0 W)
  obtain ⟨hil, hir⟩ := List.getElem?_eq_some_iff.1 hi
  obtain ⟨c0, c1⟩ := rgCell hr i hil
  rw [hir, Nat.zero_add] at c0 c1
  have HE1 := Lib.hid (fun W => end_any r.off r.l.length r.c r.fin r.A rfl hr0 W)
  obtain ⟨x, hx⟩ : ∃ x, r.off = x := ⟨_, rfl⟩
  obtain ⟨y, hy⟩ : ∃ y, r.l.length = y := ⟨_, rfl⟩
  obtain ⟨v, hv⟩ : ∃ v, r.fin = v := ⟨_, rfl⟩
  obtain ⟨i1, hi1⟩ : ∃ i1, i + 1 = i1 := ⟨_, rfl⟩
  rw [hx] at c0 HE1
  rw [hy] at c1 HE1
  rw [hv] at HE1 ht
  obtain ⟨hjl, hjr⟩ := List.getElem?_eq_some_iff.1 ho
  obtain ⟨d0, d1⟩ := rgCell hr (i + 1) hjl
  rw [hjr, Nat.zero_add] at d0 d1
  rw [hi1] at d0 d1
  have HE3 := Lib.hid (fun W => end_any s.off s.l.length s.c s.fin s.A rfl hs0 W)
  obtain ⟨x2, hx2⟩ : ∃ x2, s.off = x2 := ⟨_, rfl⟩
  obtain ⟨y2, hy2⟩ : ∃ y2, s.l.length = y2 := ⟨_, rfl⟩
  obtain ⟨v2, hv2⟩ : ∃ v2, s.fin = v2 := ⟨_, rfl⟩
  rw [hx2] at d0 HE3 hso
  rw [hy2] at d1 HE3
  rw [hv2] at HE3
  have HC := Lib.hid (And.intro g0 (And.intro c0 (And.intro c1 (And.intro d0 d1))))
  have q0 := Blk.new w 94 #[.int .u32 (o : Nat), .slice A m cd]
  have b0 := below_alloc w (.cells #[.int .u32 (o : Nat), .slice A m cd] 94)
  have HS : Hid (∀ W, Below (w.alloc (.cells #[.int .u32 (o : Nat), .slice A m cd] 94)).heap.size (w.alloc (.cells #[.int .u32 (o : Nat), .slice A m cd] 94)) W → W.cell? ⟨g, 0, none⟩ = some (.slice (some ⟨a, 0, none⟩) n c) ∧ W.cell? ⟨a, i * 2, none⟩ = some (.int .u32 (x : Nat)) ∧ W.cell? ⟨a, i * 2 + 1, none⟩ = some (.slice r.A y r.c) ∧ W.cell? ⟨a, i1 * 2, none⟩ = some (.int .u32 (x2 : Nat)) ∧ W.cell? ⟨a, i1 * 2 + 1, none⟩ = some (.slice s.A y2 s.c) ∧ W.cell? ⟨w.heap.size, 0, none⟩ = some (.int .u32 (o : Nat)) ∧ W.cell? ⟨w.heap.size, 1, none⟩ = some (.slice A m cd)) := Lib.hid fun W hW =>
    ⟨keep_of_below (below_two b0 hW) _ _ HC.out.1, keep_of_below (below_two b0 hW) _ _ HC.out.2.1, keep_of_below (below_two b0 hW) _ _ HC.out.2.2.1, keep_of_below (below_two b0 hW) _ _ HC.out.2.2.2.1, keep_of_below (below_two b0 hW) _ _ HC.out.2.2.2.2, keep_of_below hW _ _ ((q0.cell 0).trans rfl), keep_of_below hW _ _ ((q0.cell 1).trans rfl)⟩
  have HB0 := Lib.hid b0
  have e1 : (i1 : Int) - 1 = (i : Int) := by omega
  have t0 : 0 < i1 := by omega
  have t0' : (0 : Int) < i1 := by omega
  have t1 : i < n := by omega
  have t2 : decide (z ≤ v) = false := decide_eq_false ht
  have W1 : Hid (wrap64 (i : Int) = (i : Int)) := Lib.hid (w64_all i (by omega))
  have W2 : Hid (IntKind.i64.wrap (i : Int) = (i : Int)) := Lib.hid (i64_nat i (by omega))
  have u1 : i1 < n := by omega
  have u2 : decide (i1 < n) = true := decide_eq_true u1
  have u3 : ¬ x2 = o := hso
  have u6 : decide (x2 = o) = false := decide_eq_false hso
  have u7 : (x2 == o) = false := by simpa using hso
  have u8 : ((x2 : Int) == (o : Int)) = false := by simp; omega
  rw [hi1]
  clear q0 b0 hg hr g0 hz hz0 hn hn0 c0 c1 hx hy hv hil hir hi hr0 ht hi1 d0 d1 hx2 hy2 hv2 hjl hjr ho hs0 hso
  have w1 := W1.out
  have w2 := W2.out
  go_enter Tryd.func37, Tryd.ntmps37
  go_wp2_with fail
  generalize (w.alloc (.cells #[.int .u32 (o : Nat), .slice A m cd] 94)) = w3 at *
  have HS1 : Hid (∀ W, Below w3.heap.size w3 W → W.cell? ⟨g, 0, none⟩ = some (.slice (some ⟨a, 0, none⟩) n c) ∧ W.cell? ⟨a, i * 2, none⟩ = some (.int .u32 (x : Nat)) ∧ W.cell? ⟨a, i * 2 + 1, none⟩ = some (.slice r.A y r.c) ∧ W.cell? ⟨w.heap.size, 0, none⟩ = some (.int .u32 (o : Nat)) ∧ W.cell? ⟨w.heap.size, 1, none⟩ = some (.slice A m cd)) := Lib.hid (fun W hW => ⟨(HS.out W (hW)).1, (HS.out W (hW)).2.1, (HS.out W (hW)).2.2.1, (HS.out W (hW)).2.2.2.2.2.1, (HS.out W (hW)).2.2.2.2.2.2⟩)
  go_region_held_law (fun w' => w'.cell? ⟨g, 0, none⟩ = some (.slice (some ⟨a, 0, none⟩) n c) ∧ w'.cell? ⟨a, i * 2, none⟩ = some (.int .u32 (x : Nat)) ∧ w'.cell? ⟨a, i * 2 + 1, none⟩ = some (.slice r.A y r.c) ∧ w'.cell? ⟨w.heap.size, 0, none⟩ = some (.int .u32 (o : Nat)) ∧ w'.cell? ⟨w.heap.size, 1, none⟩ = some (.slice A m cd)) (first | exact HS1.out _ (Below.refl _ _) | exact HS1.out _ (below_drew _) | exact HS1.out _ (below_two (below_drew _) hb5) | exact HS1.out _ (below_two (below_two (below_drew _) hb5) hb6)) (first
    | (go_at_call 38; (with_reducible refine (HE1.out _).mono ?_); rintro e w5 ⟨rfl, hb5⟩)
    | (go_at_call 38; (with_reducible refine (HE2.out _).mono ?_); rintro e w6 ⟨rfl, hb6⟩))
  have hbb : Below w3.heap.size w3 w6 := below_two (below_two (below_drew _) hb5) hb6
  have HB1 : Hid (Below w3.heap.size w3 w6) := Lib.hid hbb
  clear hbb hb5 hb6 w1 w2 HE1 HS1
  clear e1 t0 t0' t1 W1 W2
  go_wp2_with fail
  have HS2 : Hid (∀ W, Below w6.heap.size w6 W → W.cell? ⟨g, 0, none⟩ = some (.slice (some ⟨a, 0, none⟩) n c) ∧ W.cell? ⟨a, i1 * 2, none⟩ = some (.int .u32 (x2 : Nat)) ∧ W.cell? ⟨a, i1 * 2 + 1, none⟩ = some (.slice s.A y2 s.c) ∧ W.cell? ⟨w.heap.size, 0, none⟩ = some (.int .u32 (o : Nat)) ∧ W.cell? ⟨w.heap.size, 1, none⟩ = some (.slice A m cd)) := Lib.hid (fun W hW => ⟨(HS.out W (below_two HB1.out hW)).1, (HS.out W (below_two HB1.out hW)).2.2.2.1, (HS.out W (below_two HB1.out hW)).2.2.2.2.1, (HS.out W (below_two HB1.out hW)).2.2.2.2.2.1, (HS.out W (below_two HB1.out hW)).2.2.2.2.2.2⟩)
  obtain ⟨k0, k1, k2, k3, k4⟩ := HS2.out w6 (Below.refl _ _)
  go_quiet (fail)
  have hbq2 := below_drewN (Below.refl w6.heap.size w6) nq
  have HB2 := Lib.hid hbq2
  clear hbq2
  generalize w6.drewN nq = w8 at *
  go_wp2_with fail
  first | go_ret2 | go_ret
  exact ⟨by first | rfl | simp, below_two (below_two HB0.out HB1.out) HB2.out⟩
set_option maxHeartbeats 2000000 in
theorem covers_feq (a g o m z i c cov : Nat) (A : Option Addr) (cd : Nat) (r s : Rg) (R : List Rg) (rs : List Value) (n : Nat) (hn : R.length = n) (hn0 : n ≤ 100000)
    (hi : R[i]? = some r) (hr0 : r.fin ≤ 1000000) (ht : ¬ z ≤ r.fin) (ho : R[(i + 1)]? = some s) (hs0 : s.fin ≤ 1000000) (hso : s.off = o) (hz : o + m = z) (hz0 : z ≤ 1000000) (w : World)
    (hg : Blk w g 92 (frRow (some ⟨a, 0, none⟩) n c cov rs)) (hr : Rd w (some ⟨a, 0, none⟩) (rgs R)) :
    Calls Tryd.prog 37 #[.pointer (some ⟨g, 0, none⟩), .int .i64 ((i + 1 : Nat) : Int), .agg #[.int .u32 (o : Nat), .slice A m cd]] w fun e w' => e = .returned (.bool (decide (z ≤ s.fin))) ∧ Below w.heap.size w w' := by
  have g0 : w.cell? ⟨g, 0, none⟩ = some (.slice (some ⟨a, 0, none⟩) n c) := (hg.cell 0).trans (by simp [frRow])
  have HE2 := Lib.hid (fun W => end_any o m cd z A hz hz0 W)
  obtain ⟨hil, hir⟩ := List.getElem?_eq_some_iff.1 hi
  obtain ⟨c0, c1⟩ := rgCell hr i hil
  rw [hir, Nat.zero_add] at c0 c1
  have HE1 := Lib.hid (fun W => end_any r.off r.l.length r.c r.fin r.A rfl hr0 W)
  obtain ⟨x, hx⟩ : ∃ x, r.off = x := ⟨_, rfl⟩
  obtain ⟨y, hy⟩ : ∃ y, r.l.length = y := ⟨_, rfl⟩
  obtain ⟨v, hv⟩ : ∃ v, r.fin = v := ⟨_, rfl⟩
  obtain ⟨i1, hi1⟩ : ∃ i1, i + 1 = i1 := ⟨_, rfl⟩
  rw [hx] at c0 HE1
  rw [hy] at c1 HE1
  rw [hv] at HE1 ht
  obtain ⟨hjl, hjr⟩ := List.getElem?_eq_some_iff.1 ho
  obtain ⟨d0, d1⟩ := rgCell hr (i + 1) hjl
  rw [hjr, Nat.zero_add] at d0 d1
  rw [hi1] at d0 d1
  have HE3 := Lib.hid (fun W => end_any s.off s.l.length s.c s.fin s.A rfl hs0 W)
  obtain ⟨y2, hy2⟩ : ∃ y2, s.l.length = y2 := ⟨_, rfl⟩
  obtain ⟨v2, hv2⟩ : ∃ v2, s.fin = v2 := ⟨_, rfl⟩
  rw [hso] at d0 HE3
  rw [hy2] at d1 HE3
  rw [hv2] at HE3
  rw [hv2]
  have HC := Lib.hid (And.intro g0 (And.intro c0 (And.intro c1 (And.intro d0 d1))))
  have q0 := Blk.new w 94 #[.int .u32 (o : Nat), .slice A m cd]
  have b0 := below_alloc w (.cells #[.int .u32 (o : Nat), .slice A m cd] 94)
  have HS : Hid (∀ W, Below (w.alloc (.cells #[.int .u32 (o : Nat), .slice A m cd] 94)).heap.size (w.alloc (.cells #[.int .u32 (o : Nat), .slice A m cd] 94)) W → W.cell? ⟨g, 0, none⟩ = some (.slice (some ⟨a, 0, none⟩) n c) ∧ W.cell? ⟨a, i * 2, none⟩ = some (.int .u32 (x : Nat)) ∧ W.cell? ⟨a, i * 2 + 1, none⟩ = some (.slice r.A y r.c) ∧ W.cell? ⟨a, i1 * 2, none⟩ = some (.int .u32 (o : Nat)) ∧ W.cell? ⟨a, i1 * 2 + 1, none⟩ = some (.slice s.A y2 s.c) ∧ W.cell? ⟨w.heap.size, 0, none⟩ = some (.int .u32 (o : Nat)) ∧ W.cell? ⟨w.heap.size, 1, none⟩ = some (.slice A m cd)) := Lib.hid fun W hW =>
    ⟨keep_of_below (below_two b0 hW) _ _ HC.out.1, keep_of_below (below_two b0 hW) _ _ HC.out.2.1, keep_of_below (below_two b0 hW) _ _ HC.out.2.2.1, keep_of_below (below_two b0 hW) _ _ HC.out.2.2.2.1, keep_of_below (below_two b0 hW) _ _ HC.out.2.2.2.2, keep_of_below hW _ _ ((q0.cell 0).trans rfl), keep_of_below hW _ _ ((q0.cell 1).trans rfl)⟩
  have HB0 := Lib.hid b0
  have e1 : (i1 : Int) - 1 = (i : Int) := by omega
  have t0 : 0 < i1 := by omega
  have t0' : (0 : Int) < i1 := by omega
  have t1 : i < n := by omega
  have t2 : decide (z ≤ v) = false := decide_eq_false ht
  have W1 : Hid (wrap64 (i : Int) = (i : Int)) := Lib.hid (w64_all i (by omega))
  have W2 : Hid (IntKind.i64.wrap (i : Int) = (i : Int)) := Lib.hid (i64_nat i (by omega))
  have u1 : i1 < n := by omega
  have u2 : decide (i1 < n) = true := decide_eq_true u1
  rw [hi1]
  clear q0 b0 hg hr g0 hz hz0 hn hn0 c0 c1 hx hy hv hil hir hi hr0 ht hi1 d0 d1 hy2 hv2 hjl hjr ho hs0 hso
  have w1 := W1.out
  have w2 := W2.out
  go_enter Tryd.func37, Tryd.ntmps37
  go_wp2_with fail
  generalize (w.alloc (.cells #[.int .u32 (o : Nat), .slice A m cd] 94)) = w3 at *
  have HS1 : Hid (∀ W, Below w3.heap.size w3 W → W.cell? ⟨g, 0, none⟩ = some (.slice (some ⟨a, 0, none⟩) n c) ∧ W.cell? ⟨a, i * 2, none⟩ = some (.int .u32 (x : Nat)) ∧ W.cell? ⟨a, i * 2 + 1, none⟩ = some (.slice r.A y r.c) ∧ W.cell? ⟨w.heap.size, 0, none⟩ = some (.int .u32 (o : Nat)) ∧ W.cell? ⟨w.heap.size, 1, none⟩ = some (.slice A m cd)) := Lib.hid (fun W hW => ⟨(HS.out W (hW)).1, (HS.out W (hW)).2.1, (HS.out W (hW)).2.2.1, (HS.out W (hW)).2.2.2.2.2.1, (HS.out W (hW)).2.2.2.2.2.2⟩)
  go_region_held_law (fun w' => w'.cell? ⟨g, 0, none⟩ = some (.slice (some ⟨a, 0, none⟩) n c) ∧ w'.cell? ⟨a, i * 2, none⟩ = some (.int .u32 (x : Nat)) ∧ w'.cell? ⟨a, i * 2 + 1, none⟩ = some (.slice r.A y r.c) ∧ w'.cell? ⟨w.heap.size, 0, none⟩ = some (.int .u32 (o : Nat)) ∧ w'.cell? ⟨w.heap.size, 1, none⟩ = some (.slice A m cd)) (first | exact HS1.out _ (Below.refl _ _) | exact HS1.out _ (below_drew _) | exact HS1.out _ (below_two (below_drew _) hb5) | exact HS1.out _ (below_two (below_two (below_drew _) hb5) hb6)) (first
    | (go_at_call 38; (with_reducible refine (HE1.out _).mono ?_); rintro e w5 ⟨rfl, hb5⟩)
    | (go_at_call 38; (with_reducible refine (HE2.out _).mono ?_); rintro e w6 ⟨rfl, hb6⟩))
  have hbb : Below w3.heap.size w3 w6 := below_two (below_two (below_drew _) hb5) hb6
  have HB1 : Hid (Below w3.heap.size w3 w6) := Lib.hid hbb
  clear hbb hb5 hb6 w1 w2 HE1 HS1
  clear e1 t0 t0' t1 W1 W2
  go_wp2_with fail
  have HS2 : Hid (∀ W, Below w6.heap.size w6 W → W.cell? ⟨g, 0, none⟩ = some (.slice (some ⟨a, 0, none⟩) n c) ∧ W.cell? ⟨a, i1 * 2, none⟩ = some (.int .u32 (o : Nat)) ∧ W.cell? ⟨a, i1 * 2 + 1, none⟩ = some (.slice s.A y2 s.c) ∧ W.cell? ⟨w.heap.size, 0, none⟩ = some (.int .u32 (o : Nat)) ∧ W.cell? ⟨w.heap.size, 1, none⟩ = some (.slice A m cd)) := Lib.hid (fun W hW => ⟨(HS.out W (below_two HB1.out hW)).1, (HS.out W (below_two HB1.out hW)).2.2.2.1, (HS.out W (below_two HB1.out hW)).2.2.2.2.1, (HS.out W (below_two HB1.out hW)).2.2.2.2.2.1, (HS.out W (below_two HB1.out hW)).2.2.2.2.2.2⟩)
  go_region_held_law (fun w' => w'.cell? ⟨g, 0, none⟩ = some (.slice (some ⟨a, 0, none⟩) n c) ∧ w'.cell? ⟨a, i1 * 2, none⟩ = some (.int .u32 (o : Nat)) ∧ w'.cell? ⟨a, i1 * 2 + 1, none⟩ = some (.slice s.A y2 s.c) ∧ w'.cell? ⟨w.heap.size, 0, none⟩ = some (.int .u32 (o : Nat)) ∧ w'.cell? ⟨w.heap.size, 1, none⟩ = some (.slice A m cd)) (first | exact HS2.out _ (Below.refl _ _) | exact HS2.out _ (below_drew _) | exact HS2.out _ (below_two (below_drew _) hb7) | exact HS2.out _ (below_two (below_two (below_drew _) hb7) hb8)) (first
    | (go_at_call 38; (with_reducible refine (HE3.out _).mono ?_); rintro e w7 ⟨rfl, hb7⟩)
    | (go_at_call 38; (with_reducible refine (HE2.out _).mono ?_); rintro e w8 ⟨rfl, hb8⟩))
  have HB2 : Hid (Below w6.heap.size w6 w8) := Lib.hid (below_two (below_two (below_drew _) hb7) hb8)
  clear hb7 hb8
  go_wp2_with fail
  first | go_ret2 | go_ret
  exact ⟨by first | rfl | simp, below_two (below_two HB0.out HB1.out) HB2.out⟩
end Go.Proofs.YtadblfnggmaadaaDoor
