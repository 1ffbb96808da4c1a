/- From a walk that writes nothing that was there to a row's last step: no program text. -/
import Derived.Test.YtpedkkmoplbdhaaDoorKit
import Derived.ProofKit
import Derived.OpenShut
import Derived.ShutString
import Derived.ChangeOld
import Derived.Carry
import Derived.Handed
import Derived.LaidMore
import Derived.Stop.Joined
import Derived.Stop.LaidErr
import Derived.SizedLaws
namespace Go.Cv
open Go.ChangeShapes Go.WideShapes Go.ChangeAt Go.RowKit

theorem trodAll_below {H : Type} {enc : TypeId × Value → H} {P : Program} (hl : laidOutB P = true) {W W' : World} (hb : Below W.heap.size W W') :
    ∀ (ts : List TypeId) (xs : List Value) (ds : List (DataW H)) (ps : List MemPlace), (ts.all fun t => P.readableRec t && decide (t < P.types.size)) = true →
      DataW.TrodAll enc P W 0 (fun _ => true) true ts xs ds ps → (∀ x ∈ ps, x.block < W.heap.size) → DataW.TrodAll enc P W' 0 (fun b => decide (b < W.heap.size)) true ts xs ds ps := by
  intro ts
  induction ts with
  | nil =>
    intro xs ds ps _ h _
    cases xs <;> cases ds <;> simp only [DataW.TrodAll] at h ⊢ <;> exact h
  | cons t ts ih =>
    intro xs ds ps hr h hlt
    cases xs with
    | nil => cases ds <;> exact h.elim
    | cons x xs =>
      cases ds with
      | nil => exact h.elim
      | cons d ds =>
        obtain ⟨p, q, h1, h2, rfl⟩ := h
        simp only [List.all_cons, Bool.and_eq_true, decide_eq_true_eq] at hr
        exact ⟨p, q, Below.trod hl hr.1.1 hr.1.2 h1 hb (fun y hy => hlt y (List.mem_append_left _ hy)), ih xs ds q hr.2 h2 (fun y hy => hlt y (List.mem_append_right _ hy)), rfl⟩

/-- THE LAST STEP: the law returned true and nothing that was there has turned. -/
theorem post_below {H : Type} {enc : TypeId × Value → H} {P : Program} (hl : laidOutB P = true) {f : Func} {s : ChangeSpec} {fresh : Bool} {W W' : World} {args : Array Value} {ds gs : List (DataW H)} {before : List MemPlace} {tb : TypeId}
    (hW : DataW.Whole enc P f.params.toList s.vars false W args.toList ds gs before) (hv : s.vars = []) (hr : (f.params.toList.all fun t => P.readableRec t && decide (t < P.types.size)) = true)
    (hres : f.resultTypes = #[tb]) (hbool : P.underlying tb = some .bool) (hfn : s.fn H ds = { results := [.lit (.bool true)], args := ds }) (hb : Below W.heap.size W W') :
    s.post enc P f false fresh false false W args (.bool true) W' := by
  have hW' := hW
  obtain ⟨p, q, hA, hV, rfl, hfz, hnd⟩ := hW
  rw [hv] at hV
  obtain ⟨rfl, rfl⟩ := trodVars_none hV
  have hlt : ∀ x ∈ p, x.block < W.heap.size := fun x hx => hW'.lt x (by simpa using hx)
  refine ⟨ds, [], _, [], p, [], hW', ?_, ?_, ?_, hb.frame _, fun h => by cases h⟩
  · rw [List.append_nil, hfn, hres]
    exact trodAll_mk1 (shut_bool hbool true)
  · rw [List.append_nil, hfn]
    exact trodAll_below hl hb _ _ _ _ hr hA hlt
  · rw [List.append_nil, hfn, hv]
    rfl

/-- A sentinel that the row lists: its variable's cell. -/
theorem sentinel_cell {P : Program} {n nm : String} {text : List UInt8} {l : List (String × DataW Unit)} {W : World} {g : Nat} {ti tp te ts : TypeId} {ms : Array (String × TypeId)} {f : Field}
    (hm : laidMet P l W) (hin : (n, DataW.iface nm (.ptr (.agg [.lit (.string text)]))) ∈ l)
    (hg : P.globalNamed n = some g) (ht : (P.globals[g]?).map (·.type) = some ti) (hi : P.underlying ti = some (.interface ms)) (hrow : ∀ u, P.typeName? 3 u = some nm → u = tp)
    (hp : P.underlying tp = some (.pointer te)) (he : P.underlying te = some (.struct #[f])) (hft : f.type = ts) (hfo : f.offset = 0) (hs : P.underlying ts = some .string) (hc : P.cellsOf te = 1) (hcs : P.cellsOf ts = 1) :
    ∃ a : Addr, W.cell? ⟨g, 0, none⟩ = some (.iface tp (.pointer (some a))) := by
  induction l with
  | nil => cases hin
  | cons x r ih =>
    rcases List.mem_cons.1 hin with rfl | hin'
    · obtain ⟨a, s, hv, _⟩ := laid_sentinel hm hg ht hi hrow hp he hft hfo hs hc hcs
      exact ⟨a, by simpa using World.var?_cell hg hv 0⟩
    · exact ih hm.tail hin'

/-! ### arguments opened -/
theorem nat_u8 {x : Int} (h : (Lit.int .u8 x).wf = true) : ∃ n : Nat, x = n ∧ (n : Int) < 256 := by
  obtain ⟨h1, h2⟩ := bounds_u8 h
  exact ⟨x.toNat, by omega, by omega⟩
theorem nat_u16 {x : Int} (h : (Lit.int .u16 x).wf = true) : ∃ n : Nat, x = n ∧ (n : Int) < 65536 := by
  obtain ⟨h1, h2⟩ := bounds_u16 h
  exact ⟨x.toNat, by omega, by omega⟩
theorem nat_u32 {x : Int} (h : (Lit.int .u32 x).wf = true) : ∃ n : Nat, x = n ∧ (n : Int) < 4294967296 := by
  obtain ⟨h1, h2⟩ := bounds_u32 h
  exact ⟨x.toNat, by omega, by omega⟩
theorem nat_u64 {x : Int} (h : (Lit.int .u64 x).wf = true) : ∃ n : Nat, x = n ∧ (n : Int) < 18446744073709551616 := by
  obtain ⟨h1, h2⟩ := bounds_u64 h
  exact ⟨x.toNat, by omega, by omega⟩
theorem plain_addr {w : World} {a : Addr} {v : Value} (h : w.cell? a = some v) : a = ⟨a.block, a.off, none⟩ := by
  obtain ⟨b, o, s⟩ := a
  cases s with
  | none => rfl
  | some k =>
    exfalso
    unfold World.cell? at h
    split at h <;> simp at h
section
variable {H : Type} {enc : TypeId × Value → H} {P : Program} {W : World}
theorem rd_ints {t e : TypeId} {k : IntKind} {A : Option Addr} {n c : Nat} {d : DataW H} {p : List MemPlace} (ht : P.underlying t = some (.slice e)) (he : P.underlying e = some (.int k)) (hc : P.cellsOf e = 1)
    (h : DataW.Trod enc P W 0 (fun _ => true) true t (.slice A n c) d p) :
    ∃ zs : List Int, zs.length = n ∧ n ≤ c ∧ Rd W A (zs.map (Value.int k)) ∧ ∀ z ∈ zs, (Lit.int k z).wf = true := by
  obtain ⟨fuel, hf⟩ := h
  rcases open_ints ht he hc hf with ⟨hcs, _⟩ | ⟨a, len, cap, zs, hcs, _, hl, hm, hz, _, hcell, hwf⟩
  · simp [Value.cells] at hcs
    obtain ⟨rfl, rfl, rfl⟩ := hcs
    exact ⟨[], rfl, Nat.le_refl _, .inl rfl, by simp⟩
  · simp [Value.cells] at hcs
    obtain ⟨rfl, rfl, rfl⟩ := hcs
    simp only [if_true] at hz
    refine ⟨zs.take n, by simp; omega, hl, ?_, fun z hz' => hwf z (List.mem_of_mem_take hz')⟩
    by_cases hn : n = 0
    · subst hn; exact .inl (by simp)
    · have h0 := hcell 0 (by omega)
      have ha : a.add 0 = a := by simp [Addr.add]
      rw [ha] at h0
      have hp := plain_addr h0
      refine .inr ⟨a.block, a.off, by rw [← hp], fun j v hj => ?_⟩
      rw [List.getElem?_map, List.getElem?_take] at hj
      have hjn : j < n := by
        rcases Nat.lt_or_ge j n with h' | h'
        · exact h'
        · rw [if_neg (by omega)] at hj; simp at hj
      rw [if_pos hjn] at hj
      have hjz : j < zs.length := by omega
      have := hcell j hjz
      rw [hp, add_lit] at this
      rw [this]
      rw [List.getElem?_eq_getElem hjz] at hj
      simp at hj
      rw [← hj]
      simp [List.getD, hjz]
theorem rd_strings {t e : TypeId} {A : Option Addr} {n c : Nat} {d : DataW H} {p : List MemPlace} (ht : P.underlying t = some (.slice e)) (he : P.underlying e = some .string) (hc : P.cellsOf e = 1)
    (h : DataW.Trod enc P W 0 (fun _ => true) true t (.slice A n c) d p) :
    ∃ ls : List (List UInt8), ls.length = n ∧ n ≤ c ∧ Rd W A (ls.map fun l => Value.string (S l)) := by
  obtain ⟨fuel, hf⟩ := h
  rcases open_strings ht he hc hf with ⟨hcs, _⟩ | ⟨a, len, cap, ss, hcs, _, hl, hm, hz, _, hcell, _⟩
  · simp [Value.cells] at hcs
    obtain ⟨rfl, rfl, rfl⟩ := hcs
    exact ⟨[], rfl, Nat.le_refl _, .inl rfl⟩
  · simp [Value.cells] at hcs
    obtain ⟨rfl, rfl, rfl⟩ := hcs
    simp only [if_true] at hz
    refine ⟨(ss.take n).map fun s => s.data.toList, by simp; omega, hl, ?_⟩
    have hS : ∀ s : ByteArray, S s.data.toList = s := fun s => by obtain ⟨l, rfl⟩ := S_of s; rfl
    by_cases hn : n = 0
    · subst hn; exact .inl (by simp)
    · have h0 := hcell 0 (by omega)
      have ha : a.add 0 = a := by simp [Addr.add]
      rw [ha] at h0
      have hp := plain_addr h0
      refine .inr ⟨a.block, a.off, by rw [← hp], fun j v hj => ?_⟩
      rw [List.getElem?_map, List.getElem?_map, List.getElem?_take] at hj
      have hjn : j < n := by
        rcases Nat.lt_or_ge j n with h' | h'
        · exact h'
        · rw [if_neg (by omega)] at hj; simp at hj
      rw [if_pos hjn] at hj
      have hjz : j < ss.length := by omega
      have := hcell j hjz
      rw [hp, add_lit] at this
      rw [this]
      rw [List.getElem?_eq_getElem hjz] at hj
      simp [hS] at hj
      rw [← hj]
      simp [List.getD, hjz]
/-- The fields of a struct by value, each of one cell. -/
theorem trod_fields {t : TypeId} {fs : Array Field} {cs : Array Value} {d : DataW H} {p : List MemPlace} (ht : P.underlying t = some (.struct fs))
    (hone : ((List.range fs.size).all fun i => match fs[i]? with | some f => decide (f.offset = i) && decide (P.cellsOf f.type = 1) | none => true) = true) (hC : P.cellsOf t = fs.size)
    (h : DataW.Trod enc P W 0 (fun _ => true) true t (.agg cs) d p) :
    ∃ (ys : List (DataW H × List MemPlace)) (m : Nat), ∀ (j : Nat) (f : Field), fs[j]? = some f → ∃ v y, cs[j]? = some v ∧ ys[j]? = some y ∧ DataW.trod enc P W 0 (fun _ => true) true m f.type [v] = some y := by
  obtain ⟨fuel, hf⟩ := h
  obtain ⟨xs, n, _, _, hlen, hxs, hg⟩ := DataW.trod_struct ht hf
  refine ⟨xs, n, fun j f hj => ?_⟩
  have hjf : j < fs.size := (Array.getElem?_eq_some_iff.1 hj).1
  have ho := List.all_eq_true.1 hone j (List.mem_range.2 hjf)
  rw [hj] at ho
  simp only [Bool.and_eq_true, decide_eq_true_eq] at ho
  have h1 := hg j f hj
  rw [ho.1, ho.2] at h1
  simp only [Value.cells, Array.length_toList] at hlen h1
  have hjc : j < cs.toList.length := by simp; omega
  rw [List.drop_eq_getElem_cons hjc] at h1
  have hjx : j < xs.length := by omega
  refine ⟨cs[j]'(by simpa using hjc), xs[j], by rw [Array.getElem?_eq_getElem], List.getElem?_eq_getElem hjx, ?_⟩
  rw [List.getElem?_eq_getElem hjx] at h1
  simpa using h1
theorem field_string {e : TypeId} {cs : Array Value} {j m : Nat} {ys : List (DataW H × List MemPlace)} (he : P.underlying e = some .string)
    (h : ∃ v y, cs[j]? = some v ∧ ys[j]? = some y ∧ DataW.trod enc P W 0 (fun _ => true) true m e [v] = some y) : ∃ l, cs[j]? = some (.string (S l)) := by
  obtain ⟨v, y, h1, _, h2⟩ := h
  obtain ⟨s, hs, _, _⟩ := DataW.trod_string he h2
  obtain ⟨l, rfl⟩ := S_of s
  simp at hs
  subst hs
  exact ⟨l, h1⟩
theorem field_int {e : TypeId} {k : IntKind} {cs : Array Value} {j m : Nat} {ys : List (DataW H × List MemPlace)} (he : P.underlying e = some (.int k))
    (h : ∃ v y, cs[j]? = some v ∧ ys[j]? = some y ∧ DataW.trod enc P W 0 (fun _ => true) true m e [v] = some y) : ∃ x, cs[j]? = some (.int k x) ∧ (Lit.int k x).wf = true := by
  obtain ⟨v, y, h1, _, h2⟩ := h
  obtain ⟨x, hx, _, hw⟩ := DataW.trod_int he h2
  simp at hx
  subst hx
  exact ⟨x, h1, hw⟩
end
end Go.Cv
