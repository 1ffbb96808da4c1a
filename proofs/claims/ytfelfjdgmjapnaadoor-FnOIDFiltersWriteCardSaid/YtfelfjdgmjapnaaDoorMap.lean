/- Laws of the walks: a map that a call fills by a literal, and a look-up in it. -/
import Derived.Test.YtfelfjdgmjapnaaDoorOps6
import Derived.Maps.OwnSet
namespace Go.Cv
open Go.RowKit Go.Maps
set_option linter.unusedVariables false
section
variable {H : Type} {P : Program} {ops : Array Oper} {rest : List Oper} {o : Oper} {a : Act} {Q : Exit → Act → World → Prop} {w : World} {ty0 : TypeId} {pos : String} {after : Array Edge} {dst : Option Tmp}
theorem Held.insert {t : TypeId} {m x v : Operand} (h : Held (wpList P ops Q ({ dst := dst, op := .insert t m x v, type := ty0, pos := pos, after := after, guard := none } :: rest) a w)) :
    wpList P ops Q ({ dst := dst, op := .insert t m x v, type := ty0, pos := pos, after := after, guard := none } :: rest) a w := h
theorem Held.lookup {t : TypeId} {m x : Operand} {ok : Bool} (h : Held (wpList P ops Q ({ dst := dst, op := .lookup t m x ok, type := ty0, pos := pos, after := after, guard := none } :: rest) a w)) :
    wpList P ops Q ({ dst := dst, op := .lookup t m x ok, type := ty0, pos := pos, after := after, guard := none } :: rest) a w := h
theorem held_insert (hg : o.guard = none) (m x v : Operand) (t : TypeId) (hop : o.op = Op.insert t m x v)
    (k e : TypeId) (K : Keyed P k) (ht : P.underlying t = some (.map k e)) (R : Value → Option (DataW H × List MemPlace)) (b n : Nat) (D : DataW H)
    (hm : a.eval m = .map (some b)) (hown : w.ownsMap P k R b n D) (hn : n < maxLen) (key val : Value) (kl : Lit) (hx : a.eval x = key) (hv : a.eval v = val) (hkey : keyOf P k key = some kl)
    (d : DataW H) (ps : List MemPlace) (hval : R val = some (d, ps))
    (hK : ∀ w', w'.ownsMap P k R b (n + 1) (D.put kl d) → w.grownBy w' (some b) → wpList P ops Q rest (a.put o.dst undef) w') :
    Held (wpList P ops Q (o :: rest) a w) := by
  refine held (wpList_plain hg fun K' hK' => ?_)
  obtain ⟨w', hrun, r1, r2⟩ := hown.update K ht hn hkey hval
  unfold Oper.wp
  simp [execOp, hop, hm, hx, hv, hrun, Result.andThen]
  exact hK' _ _ (hK w' r1 r2)
theorem plainElem_bool_inv {P : Program} {e : TypeId} (he : P.underlying e = some .bool) {v : Value} {z : DataW H × List MemPlace} (h : plainElem P e v = some z) : ∃ x, v = .bool x ∧ z = (.lit (.bool x), []) := by
  unfold plainElem at h
  rw [he] at h
  cases v <;> simp at h
  exact ⟨_, rfl, h.symm⟩
/-- 'v, ok := m[k]', elements bools. -/
theorem held_lookup_ok (hg : o.guard = none) (m x : Operand) (t : TypeId) (hop : o.op = Op.lookup t m x true)
    (k e : TypeId) (K : Keyed P k) (ht : P.underlying t = some (.map k e)) (he : P.underlying e = some .bool) (hz : (zeroValue e).run P w = .ok (.bool false) w) (b n : Nat) (D : DataW H)
    (hm : a.eval m = .map (some b)) (hown : w.ownsMap P k (plainElem P e) b n D) (key : Value) (kl : Lit) (hx : a.eval x = key) (hkey : keyOf P k key = some kl) (y z : Bool) (hat : D.atKey kl (.lit (.bool false)) = .lit (.bool y)) (hhas : Maps.has D kl = z)
    (hK : wpList P ops Q rest (a.put o.dst (.tuple #[.bool y, .bool z])) w) :
    Held (wpList P ops Q (o :: rest) a w) := by
  subst hhas
  refine held (wpList_lookup_own_ok w hg m x t hop k e K ht (plainElem P e) hz (.lit (.bool false)) [] (plainElem_bool he false) b n D hm hown key kl hx hkey (fun v ps hv => ?_))
  obtain ⟨c, rfl, hc⟩ := plainElem_bool_inv he hv
  simp only [Prod.mk.injEq] at hc
  have h := hat.symm.trans hc.1
  simp only [DataW.lit.injEq, Lit.bool.injEq] at h
  rw [← h]
  exact hK
/-- 'v, ok := m[k]' on a set: the run. -/
theorem lookup_unit_run {t k e : TypeId} (K : Keyed P k) (ht : P.underlying t = some (.map k e)) (hz : (zeroValue e).run P w = .ok (.agg #[]) w) {b n : Nat} {D : DataW H}
    (hown : w.ownsMap P k unitElem b n D) {key : Value} {kl : Lit} (hkey : keyOf P k key = some kl) {y : Bool} (hat : Maps.has D kl = y) :
    (Instr.lookup t (.map (some b)) key true).run P w = .ok (.tuple #[.agg #[], .bool y]) w := by
  obtain ⟨v, ps, hrun, hv⟩ := hown.look_ok K ht hz unitElem_mk hkey
  obtain ⟨rfl, _⟩ := unitElem_inv hv
  rw [hat] at hrun
  exact hrun
/-- 'm[k]', elements bools: the run. -/
theorem lookup_run {t k e : TypeId} (K : Keyed P k) (ht : P.underlying t = some (.map k e)) (he : P.underlying e = some .bool) (hz : (zeroValue e).run P w = .ok (.bool false) w) {b n : Nat} {D : DataW H}
    (hown : w.ownsMap P k (plainElem P e) b n D) {key : Value} {kl : Lit} (hkey : keyOf P k key = some kl) {y : Bool} (hat : D.atKey kl (.lit (.bool false)) = .lit (.bool y)) :
    (Instr.lookup t (.map (some b)) key false).run P w = .ok (.bool y) w := by
  obtain ⟨v, ps, hrun, hv⟩ := hown.lookup K ht hz (plainElem_bool he false) hkey
  obtain ⟨c, rfl, hc⟩ := plainElem_bool_inv he hv
  simp only [Prod.mk.injEq] at hc
  have h := hat.symm.trans hc.1
  simp only [DataW.lit.injEq, Lit.bool.injEq] at h
  subst h
  exact hrun
/-- 'm[k]', elements bools. -/
theorem held_lookup (hg : o.guard = none) (m x : Operand) (t : TypeId) (hop : o.op = Op.lookup t m x false)
    (k e : TypeId) (K : Keyed P k) (ht : P.underlying t = some (.map k e)) (he : P.underlying e = some .bool) (hz : (zeroValue e).run P w = .ok (.bool false) w) (b n : Nat) (D : DataW H)
    (hm : a.eval m = .map (some b)) (hown : w.ownsMap P k (plainElem P e) b n D) (key : Value) (kl : Lit) (hx : a.eval x = key) (hkey : keyOf P k key = some kl) (y : Bool) (hat : D.atKey kl (.lit (.bool false)) = .lit (.bool y))
    (hK : wpList P ops Q rest (a.put o.dst (.bool y)) w) :
    Held (wpList P ops Q (o :: rest) a w) := by
  refine held (wpList_plain hg fun K' hK' => ?_)
  obtain ⟨v, ps, hrun, hv⟩ := hown.lookup K ht hz (plainElem_bool he false) hkey
  obtain ⟨c, rfl, hc⟩ := plainElem_bool_inv he hv
  simp only [Prod.mk.injEq] at hc
  have h := hat.symm.trans hc.1
  simp only [DataW.lit.injEq, Lit.bool.injEq] at h
  subst h
  unfold Oper.wp
  simp [execOp, hop, hm, hx, hrun, Result.andThen]
  exact hK' _ _ hK
end
end Go.Cv
