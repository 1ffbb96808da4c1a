/- Walks: a buffer of fragments: its cache of messages; making one. -/
import Derived.Test.YtadblfnggmaadaaDoorRgI
import Derived.Test.YtadblfnggmaadaaDoorFgN
import Derived.Maps.OwnSet
namespace Go.Proofs.YtadblfnggmaadaaDoor
open Go.RowKit Go.Cv
set_option maxRecDepth 100000
set_option linter.unusedVariables false
/-! ### the cache: a map from numbers to messages -/
/-- How a message's address reads. -/
def Rp (v : Value) : Option (DataW Unit × List MemPlace) := match v with
  | .pointer none => some (.lit (.int .i64 0), [])
  | .pointer (some ⟨b, 0, none⟩) => some (.lit (.int .i64 ((b : Int) + 1)), [])
  | _ => none
theorem Rp_none {v : Value} {ps : List MemPlace} (h : Rp v = some (.lit (.int .i64 0), ps)) : v = .pointer none := by
  unfold Rp at h
  split at h
  · rfl
  · simp at h; omega
  · cases h
theorem Rp_some {v : Value} {g : Nat} {ps : List MemPlace} (h : Rp v = some (.lit (.int .i64 ((g : Int) + 1)), ps)) : v = .pointer (some ⟨g, 0, none⟩) := by
  unfold Rp at h
  split at h
  · simp at h; omega
  · rename_i b
    simp at h
    have : b = g := by omega
    rw [this]
  · cases h
theorem keyed16 : Maps.Keyed Tryd.prog 42 := Maps.int_keyed Tryd.underlying42
theorem key0 : keyOf Tryd.prog 42 (.int .u16 0) = some (.int .u16 0) := Maps.keyOf_int_mk Tryd.underlying42 (by decide)
theorem key1 : keyOf Tryd.prog 42 (.int .u16 1) = some (.int .u16 1) := Maps.keyOf_int_mk Tryd.underlying42 (by decide)
/-- Block m is a map that holds at most a message of number 0, in block x. -/
def Cache (w : World) (m n : Nat) (x : Option Nat) : Prop := ∃ D : DataW Unit, w.ownsMap Tryd.prog 42 Rp m n D ∧ Maps.IsMap D ∧ Maps.has D (.int .u16 0) = x.isSome ∧
  (∀ g, x = some g → D.atKey (.int .u16 0) (.lit (.int .i64 0)) = .lit (.int .i64 ((g : Int) + 1))) ∧ Maps.has D (.int .u16 1) = false
theorem Cache.lt {w : World} {m n : Nat} {x : Option Nat} (h : Cache w m n x) : m < w.heap.size := by
  obtain ⟨D, h, _⟩ := h
  exact h.lt
theorem Cache.tch {w w' : World} {m n : Nat} {x : Option Nat} {L : List Nat} (h : Cache w m n x) (ht : Tch L w w') (hm : m ∉ L) : Cache w' m n x := by
  obtain ⟨D, ⟨es, clock, hb, r⟩, h2⟩ := h
  have hl : m < w.heap.size := by
    rcases Nat.lt_or_ge m w.heap.size with h | h
    · exact h
    · rw [Array.getElem?_eq_none h] at hb; cases hb
  exact ⟨D, ⟨es, clock, (ht.block m hl hm).trans hb, r⟩, h2⟩
theorem Cache.made (w : World) : Cache (w.alloc (.map #[] 0)) w.heap.size 0 none :=
  ⟨_, World.ownsMap_made w _ _ _, Maps.isMap_empty, rfl, fun g h => (by cases h), rfl⟩
theorem zeroFr (w : World) : (zeroValue 57).run Tryd.prog w = .ok (.pointer none) w := by kernel_rfl
theorem Cache.look0 {w : World} {m n : Nat} (h : Cache w m n none) : (Instr.lookup 103 (.map (some m)) (.int .u16 0) true).run Tryd.prog w = .ok (.tuple #[.pointer none, .bool false]) w := by
  obtain ⟨D, ho, _, hh, _⟩ := h
  obtain ⟨v, ps, hrun, hv⟩ := ho.look_ok keyed16 Tryd.underlying103 (zeroFr w) (zd := .lit (.int .i64 0)) (zp := []) rfl key0
  have h0 : Maps.has D (.int .u16 0) = false := hh
  rw [Maps.atKey_of_not_has h0] at hv
  rw [h0, Rp_none hv] at hrun
  exact hrun
theorem Cache.look1 {w : World} {m n : Nat} {x : Option Nat} (h : Cache w m n x) : (Instr.lookup 103 (.map (some m)) (.int .u16 1) true).run Tryd.prog w = .ok (.tuple #[.pointer none, .bool false]) w := by
  obtain ⟨D, ho, _, _, _, hh⟩ := h
  obtain ⟨v, ps, hrun, hv⟩ := ho.look_ok keyed16 Tryd.underlying103 (zeroFr w) (zd := .lit (.int .i64 0)) (zp := []) rfl key1
  have h0 : Maps.has D (.int .u16 1) = false := hh
  rw [Maps.atKey_of_not_has h0] at hv
  rw [h0, Rp_none hv] at hrun
  exact hrun
theorem Cache.look {w : World} {m n g : Nat} (h : Cache w m n (some g)) : (Instr.lookup 103 (.map (some m)) (.int .u16 0) true).run Tryd.prog w = .ok (.tuple #[.pointer (some ⟨g, 0, none⟩), .bool true]) w := by
  obtain ⟨D, ho, _, hh, ha, _⟩ := h
  obtain ⟨v, ps, hrun, hv⟩ := ho.look_ok keyed16 Tryd.underlying103 (zeroFr w) (zd := .lit (.int .i64 0)) (zp := []) rfl key0
  have h0 : Maps.has D (.int .u16 0) = true := hh
  have h1 : D.atKey (.int .u16 0) (.lit (.int .i64 0)) = .lit (.int .i64 ((g : Int) + 1)) := ha g rfl
  rw [h1] at hv
  rw [h0, Rp_some hv] at hrun
  exact hrun
theorem turned_tch {w w' : World} {b : Nat} (h : w.mapTurned w' b) : Tch [b] w w' := Tch.grown h.grown
theorem lit16_ne : (Lit.int .u16 1) ≠ (Lit.int .u16 0) := by simp
theorem keylit16 (a : Int) : WideAt.IsKeyLit (.int .u16 a) := by first | trivial | exact ⟨_, rfl⟩ | simp [WideAt.IsKeyLit]
theorem Cache.put {w : World} {m n g : Nat} {x : Option Nat} (h : Cache w m n x) (hn : n < 1000) : ∃ w', (Instr.mapUpdate 103 (.map (some m)) (.int .u16 0) (.pointer (some ⟨g, 0, none⟩))).run Tryd.prog w = .ok () w' ∧ Cache w' m (n + 1) (some g) ∧ Tch [m] w w' := by
  obtain ⟨D, ho, hi, _, _, h1⟩ := h
  obtain ⟨w', hrun, ho', ht⟩ := ho.store keyed16 Tryd.underlying103 (by simp only [maxLen]; omega) key0 (val := .pointer (some ⟨g, 0, none⟩)) (d := .lit (.int .i64 ((g : Int) + 1))) (ps := []) rfl
  refine ⟨w', hrun, ⟨_, ho', hi.put _ _, ?_, ?_, ?_⟩, turned_tch ht⟩
  · exact Maps.has_put_same hi (keylit16 _) _
  · intro k hk
    cases hk
    exact Maps.atKey_put_same hi (keylit16 _) _ _
  · rw [Maps.has_put_other lit16_ne]; exact h1
theorem Cache.drop {w : World} {m n : Nat} {x : Option Nat} (h : Cache w m n x) (ty : TypeId) : ∃ w', (Builtin.delete_ #[103, 42] ty #[.map (some m), .int .u16 0]).run Tryd.prog w = .ok (.tuple #[]) w' ∧ Cache w' m n none ∧ Tch [m] w w' := by
  obtain ⟨D, ho, hi, _, _, h1⟩ := h
  obtain ⟨w', hrun, ho', ht⟩ := ho.drop keyed16 Tryd.underlying103 key0 ty
  refine ⟨w', hrun, ⟨_, ho', hi.del _, ?_, ?_, ?_⟩, turned_tch ht⟩
  · exact Maps.has_del_same
  · intro k hk; cases hk
  · rw [Maps.has_del_other lit16_ne]; exact h1
section
variable {ops : Array Oper} {rest : List Oper} {o : Oper} {a : Act} {Q : Exit → Act → World → Prop} {w : World} {ty0 : TypeId} {pos : String} {after : Array Edge} {dst : Option Tmp}
theorem Held.mapUpdate (t : TypeId) {m x v : Operand} {P : Program} (h : Held (wpList P ops Q ({ dst := dst, op := .mapUpdate t m x v, type := ty0, pos := pos, after := after, guard := none } :: rest) a w)) :
    wpList P ops Q ({ dst := dst, op := .mapUpdate t m x v, type := ty0, pos := pos, after := after, guard := none } :: rest) a w := h
theorem Held.deleteB {args : Array Operand} {ats : Array TypeId} {P : Program} (h : Held (wpList P ops Q ({ dst := dst, op := .call { callee := .builtin .delete, args := args, argTypes := ats }, type := ty0, pos := pos, after := after, guard := none } :: rest) a w)) :
    wpList P ops Q ({ dst := dst, op := .call { callee := .builtin .delete, args := args, argTypes := ats }, type := ty0, pos := pos, after := after, guard := none } :: rest) a w := h
theorem held_cput (hg : o.guard = none) (m x v : Operand) (hop : o.op = Op.mapUpdate 103 m x v) (b n g : Nat) (y : Option Nat) (hm : a.eval m = .map (some b)) (hx : a.eval x = .int .u16 0) (hv : a.eval v = .pointer (some ⟨g, 0, none⟩))
    (hc : Cache w b n y) (hn : n < 1000) (hK : ∀ w', Cache w' b (n + 1) (some g) → Tch [b] w w' → wpList Tryd.prog ops Q rest (a.put o.dst undef) w') :
    Held (wpList Tryd.prog ops Q (o :: rest) a w) := by
  refine held (wpList_plain hg fun K' hK' => ?_)
  obtain ⟨w', hrun, r1, r2⟩ := hc.put (g := g) hn
  unfold Oper.wp
  simp [execOp, hop, hm, hx, hv, hrun, Result.andThen]
  exact hK' _ _ (hK w' r1 r2)
theorem held_cdrop (hg : o.guard = none) (m x : Operand) (hop : o.op = Op.call { callee := Callee.builtin Builtin.delete, args := #[m, x], argTypes := #[103, 42] }) (b n : Nat) (y : Option Nat) (hm : a.eval m = .map (some b)) (hx : a.eval x = .int .u16 0)
    (hc : Cache w b n y) (hK : ∀ w', Cache w' b n none → Tch [b] w w' → wpList Tryd.prog ops Q rest (a.put o.dst (.tuple #[])) w') :
    Held (wpList Tryd.prog ops Q (o :: rest) a w) := by
  refine held (wpList_plain hg fun K' hK' => ?_)
  obtain ⟨w', hrun, r1, r2⟩ := hc.drop o.type
  unfold Oper.wp
  simp [execOp, hop, resolve, invoke, builtin, hm, hx, hrun, Result.andThen]
  exact hK' _ _ (hK w' r1 r2)
end
/-! ### making one -/
def fbRow (m cur : Nat) (sz ct : Int) : Array Value := #[.map (some m), .int .u16 (cur : Nat), .int .i64 sz, .int .i64 ct]
theorem newFb (w : World) : Calls Tryd.prog 31 #[] w fun e w' => ∃ f m, e = .returned (.pointer (some ⟨f, 0, none⟩)) ∧ w.heap.size ≤ f ∧ w.heap.size ≤ m ∧ f ≠ m ∧ Blk w' f 105 (fbRow m 0 0 0) ∧ Cache w' m 0 none ∧ Below w.heap.size w w' := by
  have hmm := @run_makeMap Tryd.prog
  go_enter Tryd.func31, Tryd.ntmps31
  go_wp2_with fail
  have hk := Blk.new (w.alloc (.map #[] 0)) 105 (fbRow w.heap.size 0 0 0)
  have hm := (Cache.made w).tch (Tch.alloc _ (.cells (fbRow w.heap.size 0 0 0) 105)) (by simp)
  first | go_ret2 | go_ret
  rw [World.size_alloc] at hk
  exact ⟨w.heap.size + 1, w.heap.size, rfl, by omega, Nat.le_refl _, by omega, hk, hm, below_two (below_alloc _ _) (below_alloc _ _)⟩
theorem zzNewF (w : World) : Calls Tryd.prog 24 #[] w fun e w' => ∃ f m, e = .returned (.agg #[.pointer (some ⟨f, 0, none⟩)]) ∧ w.heap.size ≤ f ∧ w.heap.size ≤ m ∧ f ≠ m ∧ Blk w' f 105 (fbRow m 0 0 0) ∧ Cache w' m 0 none ∧ Below w.heap.size w w' := by
  go_enter Tryd.func24, Tryd.ntmps24
  go_wp2_with fail
  have hb0 := below_alloc w (.cells #[.pointer none] 81)
  have hk0 := Blk.new w 81 #[.pointer none]
  generalize w.alloc (.cells #[.pointer none] 81) = w1 at *
  refine (newFb w1).mono ?_
  rintro e w2 ⟨f, m, rfl, hf, hm, hfm, hk, hc, hb⟩
  have hk2 := hk0.keep hb
  have c0 : w2.cell? ⟨w.heap.size, 0, none⟩ = some (.pointer none) := (hk2.cell 0).trans rfl
  have f0 := hk2.frozen 0
  have hl := hk0.lt
  have HF := Lib.hid (And.intro hf (And.intro hm (And.intro hfm (And.intro hk (And.intro hc (And.intro hb (And.intro hb0 hl)))))))
  clear hf hm hfm hk hc hb hb0 hl hk0
  go_wp2_with fail
  have hk3 := hk2.set_ 0 (.pointer (some ⟨f, 0, none⟩))
  obtain ⟨h1, h2, h3, h4, h5, h6, h7, h8⟩ := HF.out
  have ht := Tch.set w2 w.heap.size 0 (.pointer (some ⟨f, 0, none⟩))
  refine bodyPost_cell rfl rfl rfl hk3 Tryd.underlying81 (by kernel_rfl) ⟨f, m, rfl, by omega, by omega, h3, h4.tch ht (by simp; omega), h5.tch ht (by simp; omega), ((Tch.below (below_two h7 h6) []).then ht (by simp)).toBelow (Nat.le_refl _)⟩
theorem fbSize (f m cur : Nat) (sz ct : Int) (w : World) (hf : Blk w f 105 (fbRow m cur sz ct)) :
    Calls Tryd.prog 34 #[.pointer (some ⟨f, 0, none⟩)] w fun e w' => e = .returned (.int .i64 sz) ∧ w = w' := by
  have h1 : w.cell? ⟨f, 2, none⟩ = some (.int .i64 sz) := (hf.cell 2).trans (by simp [fbRow])
  clear hf
  go_enter Tryd.func34, Tryd.ntmps34
  go_wp2_with fail
  first | go_ret2 | go_ret
  exact ⟨rfl, rfl⟩
theorem zzSize (f m cur : Nat) (sz ct : Int) (w : World) (hf : Blk w f 105 (fbRow m cur sz ct)) :
    Calls Tryd.prog 27 #[.agg #[.pointer (some ⟨f, 0, none⟩)]] w fun e w' => e = .returned (.int .i64 sz) ∧ Below w.heap.size w w' := by
  have hb := below_alloc w (.cells #[.pointer (some ⟨f, 0, none⟩)] 81)
  have hf1 := hf.keep hb
  have HC := Lib.hid (fbSize f m cur sz ct _ hf1)
  have HB := Lib.hid hb
  clear hf hb hf1
  go_enter Tryd.func27, Tryd.ntmps27
  go_wp2_with fail
  refine HC.out.mono ?_
  rintro e w2 ⟨rfl, rfl⟩
  go_wp2_with fail
  first | go_ret2 | go_ret
  exact ⟨rfl, HB.out⟩
end Go.Proofs.YtadblfnggmaadaaDoor
