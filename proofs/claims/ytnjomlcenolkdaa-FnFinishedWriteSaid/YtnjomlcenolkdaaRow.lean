/- From a walk that writes nothing that was there to a row's last step: no program text. -/
import Derived.Test.YtnjomlcenolkdaaKit
import Derived.ProofKit
import Derived.OpenShut
import Derived.ShutString
import Derived.ChangeOld
import Derived.Carry
import Derived.Handed
import Derived.LaidMore
import Derived.Stop.Joined
import Derived.Stop.LaidErr
import Derived.SizedLaws
namespace Go.Cv
open Go.ChangeShapes Go.WideShapes Go.ChangeAt Go.RowKit

theorem trodAll_below {H : Type} {enc : TypeId × Value → H} {P : Program} (hl : laidOutB P = true) {W W' : World} (hb : Below W.heap.size W W') :
    ∀ (ts : List TypeId) (xs : List Value) (ds : List (DataW H)) (ps : List MemPlace), (ts.all fun t => P.readableRec t && decide (t < P.types.size)) = true →
      DataW.TrodAll enc P W 0 (fun _ => true) true ts xs ds ps → (∀ x ∈ ps, x.block < W.heap.size) → DataW.TrodAll enc P W' 0 (fun b => decide (b < W.heap.size)) true ts xs ds ps := by
  intro ts
  induction ts with
  | nil =>
    intro xs ds ps _ h _
    cases xs <;> cases ds <;> simp only [DataW.TrodAll] at h ⊢ <;> exact h
  | cons t ts ih =>
    intro xs ds ps hr h hlt
    cases xs with
    | nil => cases ds <;> exact h.elim
    | cons x xs =>
      cases ds with
      | nil => exact h.elim
      | cons d ds =>
        obtain ⟨p, q, h1, h2, rfl⟩ := h
        simp only [List.all_cons, Bool.and_eq_true, decide_eq_true_eq] at hr
        exact ⟨p, q, Below.trod hl hr.1.1 hr.1.2 h1 hb (fun y hy => hlt y (List.mem_append_left _ hy)), ih xs ds q hr.2 h2 (fun y hy => hlt y (List.mem_append_right _ hy)), rfl⟩

/-- THE LAST STEP: the law returned true and nothing that was there has turned. -/
theorem post_below {H : Type} {enc : TypeId × Value → H} {P : Program} (hl : laidOutB P = true) {f : Func} {s : ChangeSpec} {fresh : Bool} {W W' : World} {args : Array Value} {ds gs : List (DataW H)} {before : List MemPlace} {tb : TypeId}
    (hW : DataW.Whole enc P f.params.toList s.vars false W args.toList ds gs before) (hv : s.vars = []) (hr : (f.params.toList.all fun t => P.readableRec t && decide (t < P.types.size)) = true)
    (hres : f.resultTypes = #[tb]) (hbool : P.underlying tb = some .bool) (hfn : s.fn H ds = { results := [.lit (.bool true)], args := ds }) (hb : Below W.heap.size W W') :
    s.post enc P f false fresh false false W args (.bool true) W' := by
  have hW' := hW
  obtain ⟨p, q, hA, hV, rfl, hfz, hnd⟩ := hW
  rw [hv] at hV
  obtain ⟨rfl, rfl⟩ := trodVars_none hV
  have hlt : ∀ x ∈ p, x.block < W.heap.size := fun x hx => hW'.lt x (by simpa using hx)
  refine ⟨ds, [], _, [], p, [], hW', ?_, ?_, ?_, hb.frame _, fun h => by cases h⟩
  · rw [List.append_nil, hfn, hres]
    exact trodAll_mk1 (shut_bool hbool true)
  · rw [List.append_nil, hfn]
    exact trodAll_below hl hb _ _ _ _ hr hA hlt
  · rw [List.append_nil, hfn, hv]
    rfl

/-- A sentinel that the row lists: its variable's cell. -/
theorem sentinel_cell {P : Program} {n nm : String} {text : List UInt8} {l : List (String × DataW Unit)} {W : World} {g : Nat} {ti tp te ts : TypeId} {ms : Array (String × TypeId)} {f : Field}
    (hm : laidMet P l W) (hin : (n, DataW.iface nm (.ptr (.agg [.lit (.string text)]))) ∈ l)
    (hg : P.globalNamed n = some g) (ht : (P.globals[g]?).map (·.type) = some ti) (hi : P.underlying ti = some (.interface ms)) (hrow : ∀ u, P.typeName? 3 u = some nm → u = tp)
    (hp : P.underlying tp = some (.pointer te)) (he : P.underlying te = some (.struct #[f])) (hft : f.type = ts) (hfo : f.offset = 0) (hs : P.underlying ts = some .string) (hc : P.cellsOf te = 1) (hcs : P.cellsOf ts = 1) :
    ∃ a : Addr, W.cell? ⟨g, 0, none⟩ = some (.iface tp (.pointer (some a))) := by
  induction l with
  | nil => cases hin
  | cons x r ih =>
    rcases List.mem_cons.1 hin with rfl | hin'
    · obtain ⟨a, s, hv, _⟩ := laid_sentinel hm hg ht hi hrow hp he hft hfo hs hc hcs
      exact ⟨a, by simpa using World.var?_cell hg hv 0⟩
    · exact ih hm.tail hin'
end Go.Cv
