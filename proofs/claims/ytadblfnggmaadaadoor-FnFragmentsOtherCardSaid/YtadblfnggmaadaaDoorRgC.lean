/- Walks: pieces of a message: whether a piece is there already (all ways); how much of the beginning is there. -/
import Derived.Test.YtadblfnggmaadaaDoorRgB
import Derived.Deep.RegionLaw
namespace Go.Proofs.YtadblfnggmaadaaDoor
open Go.RowKit Go.Cv
set_option maxRecDepth 100000
set_option linter.unusedVariables false
def Small (R : List Rg) : Prop := ∀ r ∈ R, r.fin ≤ 1000000
theorem Small.at_ {R : List Rg} (h : Small R) {i : Nat} {r : Rg} (hi : R[i]? = some r) : r.fin ≤ 1000000 := h r (List.mem_of_getElem? hi)
theorem rgAddr {w : World} {E : Option Addr} {R : List Rg} (hE : Hi 0 E) (hr : Rd w E (rgs R)) {i : Nat} {r : Rg} (hi : R[i]? = some r) : ∃ a, E = some ⟨a, 0, none⟩ := by
  rcases hE with rfl | ⟨a, rfl, _⟩
  · rcases hr with hr | ⟨b, o, h, _⟩
    · have hl := rgs_length R
      rw [hr] at hl
      have := (List.getElem?_eq_some_iff.1 hi).1
      simp only [List.length_nil] at hl
      omega
    · cases h
  · exact ⟨a, rfl⟩
theorem covers_any (g i c cov : Nat) (E : Option Addr) (f : Rg) (R : List Rg) (rs : List Value) (n : Nat) (hn : R.length = n) (hn0 : n ≤ 100000) (hs : Small R) (hf : f.fin ≤ 1000000) (hi0 : i ≤ n) (w : World)
    (hg : Blk w g 92 (frRow E n c cov rs)) (hE : Hi 0 E) (hr : Rd w E (rgs R)) :
    Calls Tryd.prog 37 #[.pointer (some ⟨g, 0, none⟩), .int .i64 (i : Int), .agg #[.int .u32 (f.off : Nat), .slice f.A f.l.length f.c]] w fun e w' => e = .returned (.bool (covA R i f || covC R i f)) ∧ Below w.heap.size w w' := by
  cases i with
  | zero =>
    have hA : covA R 0 f = false := rfl
    rw [hA, Bool.false_or]
    cases ho : R[0]? with
    | none =>
      have hC : covC R 0 f = false := by simp [covC, ho]
      rw [hC]
      exact covers_zout E 0 g f.off f.l.length f.fin 0 c cov f.A f.c f f R rs n hn hn0 ho rfl hf w hg hr
    | some s =>
      obtain ⟨a, rfl⟩ := rgAddr hE hr ho
      by_cases he : s.off = f.off
      · have hC : covC R 0 f = decide (f.fin ≤ s.fin) := by simp [covC, ho, he]
        rw [hC]
        exact covers_zeq a g f.off f.l.length f.fin 0 c cov f.A f.c f s R rs n hn hn0 ho (hs.at_ ho) he rfl hf w hg hr
      · have hC : covC R 0 f = false := by simp [covC, ho, he]
        rw [hC]
        exact covers_zne a g f.off f.l.length f.fin 0 c cov f.A f.c f s R rs n hn hn0 ho (hs.at_ ho) he rfl hf w hg hr
  | succ i =>
    obtain ⟨r, hi⟩ : ∃ r, R[i]? = some r := ⟨_, List.getElem?_eq_getElem (by omega)⟩
    obtain ⟨a, rfl⟩ := rgAddr hE hr hi
    by_cases ht : f.fin ≤ r.fin
    · have hA : covA R (i + 1) f = true := by simp [covA, hi, ht]
      rw [hA, Bool.true_or]
      exact covers_t a g f.off f.l.length f.fin i c cov f.A f.c r r R rs n hn hn0 hi (hs.at_ hi) ht rfl hf w hg hr
    · have hA : covA R (i + 1) f = false := by simp [covA, hi, ht]
      rw [hA, Bool.false_or]
      cases ho : R[i + 1]? with
      | none =>
        have hC : covC R (i + 1) f = false := by simp [covC, ho]
        rw [hC]
        exact covers_fout a g f.off f.l.length f.fin i c cov f.A f.c r r R rs n hn hn0 hi (hs.at_ hi) ht ho rfl hf w hg hr
      | some s =>
        by_cases he : s.off = f.off
        · have hC : covC R (i + 1) f = decide (f.fin ≤ s.fin) := by simp [covC, ho, he]
          rw [hC]
          exact covers_feq a g f.off f.l.length f.fin i c cov f.A f.c r s R rs n hn hn0 hi (hs.at_ hi) ht ho (hs.at_ ho) he rfl hf w hg hr
        · have hC : covC R (i + 1) f = false := by simp [covC, ho, he]
          rw [hC]
          exact covers_fne a g f.off f.l.length f.fin i c cov f.A f.c r s R rs n hn hn0 hi (hs.at_ hi) ht ho (hs.at_ ho) he rfl hf w hg hr
end Go.Proofs.YtadblfnggmaadaaDoor
