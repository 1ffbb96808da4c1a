/- Walks: impl.Ranges. -/
import Derived.Test.YtadblfnggmaadaaDoorRgI
import Derived.Test.YtadblfnggmaadaaDoorOrd
import Derived.Deep.RegionHeldLaw
namespace Go.Proofs.YtadblfnggmaadaaDoor
open Go.RowKit Go.Cv
set_option maxRecDepth 100000
set_option linter.unusedVariables false
/-- What stays so along the run. -/
structure Run (R : List Rg) (cov k : Nat) : Prop where
  asc : Asc R
  fin : ∀ r ∈ R, r.fin ≤ 2000
  cov : cov ≤ 2000
  len : R.length ≤ k
theorem Run.small {R : List Rg} {cov k : Nat} (h : Run R cov k) : Small R := fun r hr => Nat.le_trans (h.fin r hr) (by omega)
theorem Run.step {R : List Rg} {cov k : Nat} (h : Run R cov k) : Run R cov (k + 1) := ⟨h.asc, h.fin, h.cov, Nat.le_succ_of_le h.len⟩
theorem Run.add {R : List Rg} {cov k i : Nat} {f : Rg} (h : Run R cov k) (hf : f.fin ≤ 2000) (hp : Place R f i) (hc : (covA R i f || covC R i f) = false) : Run (addR R f i) (advL ((addR R f i).drop i) cov) (k + 1) := by
  have ha : covA R i f = false := by revert hc; cases covA R i f <;> simp
  have hc' : covC R i f = false := by revert hc; cases covC R i f <;> simp
  have hfin : ∀ r ∈ addR R f i, r.fin ≤ 2000 := by
    intro r hr
    unfold addR at hr
    rcases List.mem_append.1 hr with hr | hr
    · exact h.fin r (List.mem_of_mem_take hr)
    · rcases List.mem_append.1 hr with hr | hr
      · simp at hr; subst hr; exact hf
      · exact h.fin r (List.mem_of_mem_drop hr)
  have hA := addR_asc h.asc hp ha hc'
  refine ⟨hA, hfin, (adv_spec 2000 _ cov (hA.drop i) (fun r hr => hfin r (List.mem_of_mem_drop hr)) h.cov).2.1, ?_⟩
  have h1 := (addR_count hp (f := f)).1
  have h2 := h.len
  omega
theorem told_cells {W : World} {q : Nat} {v0 v1 v2 v3 v4 v5 : Value} (h : Blk W q 36 #[v0, v1, v2, v3, v4, v5]) :
    W.cell? ⟨q, 0, none⟩ = some v0 ∧ W.cell? ⟨q, 1, none⟩ = some v1 ∧ W.cell? ⟨q, 2, none⟩ = some v2 ∧ W.cell? ⟨q, 3, none⟩ = some v3 ∧ W.cell? ⟨q, 4, none⟩ = some v4 ∧ W.cell? ⟨q, 5, none⟩ = some v5 ∧
    W.frozen? ⟨q, 0, none⟩ = false ∧ W.frozen? ⟨q, 1, none⟩ = false ∧ W.frozen? ⟨q, 2, none⟩ = false ∧ W.frozen? ⟨q, 3, none⟩ = false ∧ W.frozen? ⟨q, 4, none⟩ = false ∧ W.frozen? ⟨q, 5, none⟩ = false :=
  ⟨(h.cell 0).trans rfl, (h.cell 1).trans rfl, (h.cell 2).trans rfl, (h.cell 3).trans rfl, (h.cell 4).trans rfl, (h.cell 5).trans rfl, h.frozen 0, h.frozen 1, h.frozen 2, h.frozen 3, h.frozen 4, h.frozen 5⟩
theorem told_set {W : World} {q : Nat} {u0 u1 u2 u3 u4 u5 : Value} (h : Blk W q 36 #[u0, u1, u2, u3, u4, u5]) (v0 v1 v2 v3 v4 v5 : Value) :
    Blk ((((((W.setCell ⟨q, 0, none⟩ v0).setCell ⟨q, 1, none⟩ v1).setCell ⟨q, 2, none⟩ v2).setCell ⟨q, 3, none⟩ v3).setCell ⟨q, 4, none⟩ v4).setCell ⟨q, 5, none⟩ v5) q 36 #[v0, v1, v2, v3, v4, v5] ∧
    ∀ {B : Nat} {w0 : World}, Below B w0 W → B ≤ q → Below B w0 ((((((W.setCell ⟨q, 0, none⟩ v0).setCell ⟨q, 1, none⟩ v1).setCell ⟨q, 2, none⟩ v2).setCell ⟨q, 3, none⟩ v3).setCell ⟨q, 4, none⟩ v4).setCell ⟨q, 5, none⟩ v5) :=
  ⟨by simpa using (((((h.set_ 0 v0).set_ 1 v1).set_ 2 v2).set_ 3 v3).set_ 4 v4).set_ 5 v5, fun hb hq => (((((hb.setCell hq _).setCell hq _).setCell hq _).setCell hq _).setCell hq _).setCell hq _⟩
/-- What is told, while it is written down. -/
structure TIn (ok : Bool) (fr by_ : Int) (cov q j c1 c2 : Nat) (A1 A2 : Option Addr) (R : List Rg) (w6 w : World) : Prop where
  blk : Blk w q 36 #[.bool ok, .int .i64 fr, .int .i64 by_, .int .u32 (cov : Nat), .slice A1 j c1, .slice A2 j c2]
  o1 : Own w 0 1 A1 j c1 (offs (R.take j))
  h1 : Hi (q + 1) A1
  lo1 : Lo A1 w
  o2 : Own w 0 1 A2 j c2 (txts (R.take j))
  h2 : Hi (q + 1) A2
  lo2 : Lo A2 w
  ne : ∀ a, A1.map (·.block) = some a → A2.map (·.block) ≠ some a
  bel : Below w6.heap.size w6 w
theorem TIn.keep {ok : Bool} {fr by_ : Int} {cov q j c1 c2 : Nat} {A1 A2 : Option Addr} {R : List Rg} {w6 w w' : World} (h : TIn ok fr by_ cov q j c1 c2 A1 A2 R w6 w) (hb : Below w.heap.size w w') : TIn ok fr by_ cov q j c1 c2 A1 A2 R w6 w' :=
  ⟨h.blk.keep hb, h.o1.keep hb, h.h1, h.lo1.mono hb.size, h.o2.keep hb, h.h2, h.lo2.mono hb.size, h.ne, below_two h.bel hb⟩
theorem TIn.away {ok : Bool} {fr by_ : Int} {cov q j c1 c2 : Nat} {A1 A2 : Option Addr} {R : List Rg} {w6 w : World} (h : TIn ok fr by_ cov q j c1 c2 A1 A2 R w6 w) : q ∉ (A1.map (·.block)).toList ++ (A2.map (·.block)).toList := fun hm => by
  rcases List.mem_append.1 hm with hm | hm
  · have := h.h1.inn q hm; omega
  · have := h.h2.inn q hm; omega
theorem Safe.below {w w' : World} {X : List Nat} {A : Option Addr} {xs : List Value} (h : Safe w X A xs) (hb : Below w.heap.size w w') : Safe w' X A xs := h.tch (Tch.below hb []) (by simp)
/-- A row that stood there before what is told is written. -/
theorem TIn.old {ok : Bool} {fr by_ : Int} {cov q j c1 c2 : Nat} {A1 A2 B : Option Addr} {R : List Rg} {w6 w W : World} {X : List Nat} {xs : List Value} (h : TIn ok fr by_ cov q j c1 c2 A1 A2 R w6 w) (hs : Safe w6 X B xs) (hq : w6.heap.size ≤ q) (hT : Tch ((A1.map (·.block)).toList ++ (A2.map (·.block)).toList) w W) : Rd W B xs := by
  rcases hs with hs | ⟨b, rfl, hb, _, hr⟩
  · exact .inl hs
  · refine ((hr.keep h.bel)).tch hT fun hm => ?_
    rcases List.mem_append.1 hm with hm | hm
    · have := h.h1.inn b hm; omega
    · have := h.h2.inn b hm; omega
/-- While a piece is told: both rows as they were; the first one longer; both. -/
structure P12 (w9 : World) (j c1 c2 : Nat) (A1 A2 : Option Addr) (R : List Rg) (W : World) : Prop where
  t : Tch ((A1.map (·.block)).toList ++ (A2.map (·.block)).toList) w9 W
  o1 : Own W 0 1 A1 j c1 (offs (R.take j))
  o2 : Own W 0 1 A2 j c2 (txts (R.take j))
theorem P12.keep {w9 : World} {j c1 c2 : Nat} {A1 A2 : Option Addr} {R : List Rg} {W W' : World} (h : P12 w9 j c1 c2 A1 A2 R W) (hb : Below W.heap.size W W') : P12 w9 j c1 c2 A1 A2 R W' := ⟨h.t.trans (Tch.below hb _), h.o1.keep hb, h.o2.keep hb⟩
structure Q12 (w9 : World) (j c1 c2 : Nat) (A1 B1 A2 : Option Addr) (R : List Rg) (x : List Value) (W : World) : Prop where
  t : Tch ((A1.map (·.block)).toList ++ (A2.map (·.block)).toList) w9 W
  o1 : Own W 0 1 B1 (j + 1) c1 (offs (R.take j) ++ x)
  o2 : Own W 0 1 A2 j c2 (txts (R.take j))
  m1 : B1 = A1 ∨ ∃ k, B1 = some ⟨k, 0, none⟩ ∧ w9.heap.size ≤ k
theorem Q12.keep {w9 : World} {j c1 c2 : Nat} {A1 B1 A2 : Option Addr} {R : List Rg} {x : List Value} {W W' : World} (h : Q12 w9 j c1 c2 A1 B1 A2 R x W) (hb : Below W.heap.size W W') : Q12 w9 j c1 c2 A1 B1 A2 R x W' := ⟨h.t.trans (Tch.below hb _), h.o1.keep hb, h.o2.keep hb, h.m1⟩
structure E12 (w9 : World) (j c1 c2 : Nat) (A1 B1 A2 B2 : Option Addr) (R : List Rg) (x y : List Value) (W : World) : Prop where
  t : Tch ((A1.map (·.block)).toList ++ (A2.map (·.block)).toList) w9 W
  o1 : Own W 0 1 B1 (j + 1) c1 (offs (R.take j) ++ x)
  o2 : Own W 0 1 B2 (j + 1) c2 (txts (R.take j) ++ y)
  m1 : B1 = A1 ∨ ∃ k, B1 = some ⟨k, 0, none⟩ ∧ w9.heap.size ≤ k
  m2 : B2 = A2 ∨ ∃ k, B2 = some ⟨k, 0, none⟩ ∧ w9.heap.size ≤ k
  ne : ∀ a, B1.map (·.block) = some a → B2.map (·.block) ≠ some a
theorem TIn.newer1 {ok : Bool} {fr by_ : Int} {cov q j c1 c2 v : Nat} {A1 A2 : Option Addr} {R : List Rg} {w6 w : World} (h : TIn ok fr by_ cov q j c1 c2 A1 A2 R w6 w) (hv : w.heap.size ≤ v) : v ∉ (A1.map (·.block)).toList := fun hm => by
  have := h.lo1 v (by simpa using hm); omega
theorem P12.one {ok : Bool} {fr by_ : Int} {cov q j c1 c2 c' : Nat} {A1 A2 B1 : Option Addr} {R : List Rg} {w6 w9 W W' : World} {x : List Value} (h : P12 w9 j c1 c2 A1 A2 R W) (hi : TIn ok fr by_ cov q j c1 c2 A1 A2 R w6 w9) (hO : Own W' 0 1 B1 (j + 1) c' (offs (R.take j) ++ x)) (hg : W.grownBy W' (A1.map (·.block))) (hor : (B1 = A1 ∧ c' = c1) ∨ B1 = some ⟨W.heap.size, 0, none⟩) : Q12 w9 j c' c2 A1 B1 A2 R x W' := by
  refine ⟨h.t.trans ((Tch.grown hg).more (fun k hk => .inl (List.mem_append.2 (.inl hk)))), hO, h.o2.tch (Tch.grown hg) ?_, ?_⟩
  · rcases hi.h2 with h1 | ⟨a, h1, _⟩
    · exact .inl h1
    · exact .inr ⟨a, h1, fun hm => hi.ne a (by simpa using hm) (by rw [h1]; rfl)⟩
  · rcases hor with ⟨h1, _⟩ | h1
    · exact .inl h1
    · exact .inr ⟨_, h1, h.t.size⟩
theorem Q12.two {ok : Bool} {fr by_ : Int} {cov q j c1 c2 c' c'' : Nat} {A1 A2 B1 B2 : Option Addr} {R : List Rg} {w6 w9 W W' : World} {x y : List Value} (h : Q12 w9 j c' c2 A1 B1 A2 R x W) (hi : TIn ok fr by_ cov q j c1 c2 A1 A2 R w6 w9) (hO : Own W' 0 1 B2 (j + 1) c'' (txts (R.take j) ++ y)) (hg : W.grownBy W' (A2.map (·.block))) (hor : (B2 = A2 ∧ c'' = c2) ∨ B2 = some ⟨W.heap.size, 0, none⟩) : E12 w9 j c' c'' A1 B1 A2 B2 R x y W' := by
  have hB1 : ∀ a, B1.map (·.block) = some a → A2.map (·.block) ≠ some a := by
    intro a ha hA
    rcases h.m1 with h1 | ⟨k, h1, hk⟩
    · rw [h1] at ha; exact hi.ne a ha hA
    · rw [h1] at ha; simp at ha; subst ha
      have := hi.lo2 k hA; omega
  refine ⟨h.t.trans ((Tch.grown hg).more (fun k hk => .inl (List.mem_append.2 (.inr hk)))), h.o1.tch (Tch.grown hg) ?_, hO, h.m1, ?_, ?_⟩
  · have hh : Hi 0 B1 := by
      rcases h.m1 with h1 | ⟨k, h1, _⟩
      · rw [h1]; exact Hi.low hi.h1
      · exact .inr ⟨k, h1, Nat.zero_le _⟩
    rcases hh with h1 | ⟨a, h1, _⟩
    · exact .inl h1
    · exact .inr ⟨a, h1, fun hm => hB1 a (by rw [h1]; rfl) (by simpa using hm)⟩
  · rcases hor with ⟨h1, _⟩ | h1
    · exact .inl h1
    · exact .inr ⟨_, h1, h.t.size⟩
  · intro a ha hA
    rcases hor with ⟨h1, _⟩ | h1
    · rw [h1] at hA; exact hB1 a ha hA
    · rw [h1] at hA; simp at hA; subst hA
      have := own_loS h.o1 (Nat.succ_pos j) (by omega) W.heap.size ha
      omega
theorem take_one {R : List Rg} {j : Nat} {r : Rg} (h : R[j]? = some r) : R.take (j + 1) = R.take j ++ [r] := by
  obtain ⟨hl, hv⟩ := List.getElem?_eq_some_iff.1 h
  rw [List.take_succ_eq_append_getElem hl, hv]
theorem tin_end {ok : Bool} {fr by_ : Int} {cov q j c1 c2 c' c'' : Nat} {A1 A2 B1 B2 : Option Addr} {R : List Rg} {w6 w9 W : World} {r : Rg} (hi : TIn ok fr by_ cov q j c1 c2 A1 A2 R w6 w9) (h : E12 w9 j c' c'' A1 B1 A2 B2 R [.int .u32 (r.off : Nat)] [.string (S r.l)] W) (hr : R[j]? = some r) (hq : w6.heap.size ≤ q) :
    TIn ok fr by_ cov q (j + 1) c' c'' B1 B2 R w6 ((W.setCell ⟨q, 4, none⟩ (.slice B1 (j + 1) c')).setCell ⟨q, 5, none⟩ (.slice B2 (j + 1) c'')) := by
  have hqs : q < w9.heap.size := hi.blk.lt
  have h1 : Hi (q + 1) B1 := by
    rcases h.m1 with h1 | ⟨k, h1, hk⟩
    · rw [h1]; exact hi.h1
    · exact .inr ⟨k, h1, by omega⟩
  have h2 : Hi (q + 1) B2 := by
    rcases h.m2 with h1 | ⟨k, h1, hk⟩
    · rw [h1]; exact hi.h2
    · exact .inr ⟨k, h1, by omega⟩
  have hT : Tch [q] W ((W.setCell ⟨q, 4, none⟩ (.slice B1 (j + 1) c')).setCell ⟨q, 5, none⟩ (.slice B2 (j + 1) c'')) := (Tch.set W q 4 _).trans (Tch.set _ q 5 _)
  have hk := ((hi.blk.tch h.t hi.away).set_ 4 (.slice B1 (j + 1) c')).set_ 5 (.slice B2 (j + 1) c'')
  have e1 : offs (R.take j) ++ [Value.int .u32 (r.off : Nat)] = offs (R.take (j + 1)) := by rw [take_one hr]; simp [offs]
  have e2 : txts (R.take j) ++ [Value.string (S r.l)] = txts (R.take (j + 1)) := by rw [take_one hr]; simp [txts]
  have o1 := h.o1
  have o2 := h.o2
  rw [e1] at o1
  rw [e2] at o2
  refine ⟨by simpa using hk, o1.tch hT (h1.away (by simp)), h1, (own_loS h.o1 (Nat.succ_pos j) (by omega)).mono hT.size, o2.tch hT (h2.away (by simp)), h2, (own_loS h.o2 (Nat.succ_pos j) (by omega)).mono hT.size, h.ne, ?_⟩
  refine ((((Tch.below hi.bel []).then h.t (fun k hk => .inr ?_))).then hT (fun k hk => .inr (by simp at hk; omega))).toBelow (Nat.le_refl _)
  rcases List.mem_append.1 hk with hk | hk
  · have := hi.h1.inn k hk; omega
  · have := hi.h2.inn k hk; omega
theorem u32info : (Tryd.prog.info? 27).map (fun i => (i.zero, i.size, i.bytes)) = some (some (.int .u32 0), 1, 4) := by kernel_rfl
theorem toldinfo : (Tryd.prog.info? 36).map (fun i => (i.zero, i.size, i.bytes)) = some (some (.agg #[.bool false, .int .i64 0, .int .i64 0, .int .u32 0, .slice none 0 0, .slice none 0 0]), 6, 80) := by kernel_rfl
theorem TIn.told {ok : Bool} {fr by_ : Int} {cov q c1 c2 : Nat} {A1 A2 E O : Option Addr} {g : Nat} {R : List Rg} {w6 w : World} (h : TIn ok fr by_ cov q R.length c1 c2 A1 A2 R w6 w) (hq : w6.heap.size ≤ q) (hx : ∀ k ∈ exc g E O, k < w6.heap.size) : Safe w (exc g E O) A1 (offs R) ∧ Safe w (exc g E O) A2 (txts R) := by
  have e1 := h.o1
  have e2 := h.o2
  rw [List.take_length] at e1 e2
  refine ⟨?_, ?_⟩
  · rcases h.h1 with h1 | ⟨a, h1, h2⟩
    · rcases e1.rd with h3 | ⟨b, o, h3, _⟩
      · exact .inl h3
      · rw [h1] at h3; simp at h3
    · refine .inr ⟨a, h1, h.lo1 a (by rw [h1]; rfl), fun hm => ?_, h1 ▸ e1.rd⟩
      have := hx a hm; omega
  · rcases h.h2 with h1 | ⟨a, h1, h2⟩
    · rcases e2.rd with h3 | ⟨b, o, h3, _⟩
      · exact .inl h3
      · rw [h1] at h3; simp at h3
    · refine .inr ⟨a, h1, h.lo2 a (by rw [h1]; rfl), fun hm => ?_, h1 ▸ e2.rd⟩
      have := hx a hm; omega
theorem RgM.excs {g z n c cov : Nat} {E : Option Addr} {R : List Rg} {rs : List Value} {O : Option Addr} {k co : Nat} {T : List Tl} {w0 w : World} (h : RgM g z n c cov E R rs O k co T w0 w) : ∀ q ∈ exc g E O, q < w.heap.size := by
  intro q hq
  rcases exc_mem.1 hq with h1 | h1 | h1
  · rw [h1]; exact h.fr.lt
  · exact h.loE q h1
  · exact h.loO q h1
theorem strinfo : (Tryd.prog.info? 9).map (fun i => (i.zero, i.size, i.bytes)) = some (some (.string ByteArray.empty), 1, 16) := by kernel_rfl
def RgPost (s : List St) (n : Nat) (w : World) (e : Ending) (w' : World) : Prop := ∃ O co T, e = .returned (.slice O n co) ∧ T.length = n ∧ Chain s T ∧ Hi 0 O ∧ Rd w' O (rowsOf tlv T) ∧ (∀ t ∈ T, Rd w' t.A1 (offs t.R) ∧ Rd w' t.A2 (txts t.R)) ∧ Below w.heap.size w w'
set_option maxHeartbeats 4000000 in
theorem ranges_any (s : List St) (b o n c : Nat) (hl : s.length = n) (hn : n ≤ 60) (hs : ∀ x ∈ s, x.off + x.l.length ≤ 2000 ∧ 0 < x.l.length) (ad : Addr) (w : World) (hr : Rd w (some ⟨b, o, none⟩) (rowsOf stv s)) (hev : w.cell? ⟨0, 0, none⟩ = some (.iface 131 (.pointer (some ad)))) :
    Calls Tryd.prog 6 #[.slice (some ⟨b, o, none⟩) n c] w (RgPost s n w) := by
  have HR := Lib.hid hr
  have HE := Lib.hid hev
  have HN := Lib.hid (And.intro hl (And.intro hn hs))
  clear hr hev hl hn hs
  go_enter Tryd.func6, Tryd.ntmps6
  go_wp2_with fail
  refine (zzNew w).mono ?_
  rintro e w1 ⟨g, rfl, hg1, hk1, hb1⟩
  have HK1 := Lib.hid (And.intro hg1 (And.intro hk1 hb1))
  clear hg1 hk1 hb1
  go_upto_region 2 with (fail)
  have hM0 : RgM g w1.heap.size 0 0 0 none [] zeroRest none 0 0 [] w (w1.alloc (.cells #[.pointer (some ⟨g, 0, none⟩)] 59)) := by
    have hb := below_alloc w1 (.cells #[.pointer (some ⟨g, 0, none⟩)] 59)
    have hlt := HK1.out.2.1.lt
    exact ⟨below_two HK1.out.2.2 hb, HK1.out.1, Blk.new _ _ _, by simp [exc]; omega, HK1.out.2.1.keep hb, Own.nil _ _ _, .inl rfl, Lo.none _, by simp, Own.nil _ _ _, .inl rfl, Lo.none _, by simp, by simp, by simp, by simp⟩
  obtain ⟨z, hz⟩ : ∃ z, w1.heap.size = z := ⟨_, rfl⟩
  rw [hz] at hM0
  simp only [hz]
  have HM0 := Lib.hid hM0
  clear hM0
  generalize w1.alloc (.cells #[.pointer (some ⟨g, 0, none⟩)] 59) = w2 at *
  go_wp2_with fail
  go_loopw [17, 4] (fun x y wr => ∃ (k : Nat) (O : Option Addr) (co : Nat), k ≤ n ∧ x = .int .i64 (k : Nat) ∧ y = .slice O k co ∧ Hid (∃ (T : List Tl) (E : Option Addr) (m cE : Nat), T.length = k ∧ Chain s T ∧ m = (stR T k).length ∧ Run (stR T k) (stC T k) k ∧ RgM g z m cE (stC T k) E (stR T k) zeroRest O k co T w wr)) (fun x _ _ => n - (intOf x).toNat)
  case atStart => exact ⟨0, none, 0, Nat.zero_le _, rfl, rfl, Lib.hid ⟨[], none, 0, 0, rfl, fun j x t _ h => by simp at h, rfl, ⟨Asc.nil, fun r h => by simp [stR] at h, Nat.zero_le _, Nat.le_refl _⟩, HM0.out⟩⟩
  case round =>
    obtain ⟨k, O, co, hkn, rfl, rfl, HT⟩ := hrel
    obtain ⟨T, E, m, cE, hTk, hch, hm, hrun, hmem⟩ := HT.out
    have HM := Lib.hid (And.intro hTk (And.intro hch (And.intro hm (And.intro hrun hmem))))
    clear HT hTk hch hm hrun hmem
    by_cases hlt : k < n
    · obtain ⟨x, hx⟩ : ∃ x, s[k]? = some x := ⟨_, List.getElem?_eq_getElem (by rw [HN.out.1]; exact hlt)⟩
      have hr1 := HR.out.keep HM.out.2.2.2.2.bel
      have c0 := rowsCell stv_length hr1 k x hx 0 (by omega) _ rfl
      have c1 := rowsCell stv_length hr1 k x hx 1 (by omega) _ rfl
      have c2 := rowsCell stv_length hr1 k x hx 2 (by omega) _ rfl
      rw [Nat.add_zero] at c0
      have hxb := HN.out.2.2 x (List.mem_of_getElem? hx)
      have HX := Lib.hid (And.intro hx hxb)
      have z0 : wr.cell? ⟨z, 0, none⟩ = some (.pointer (some ⟨g, 0, none⟩)) := (HM.out.2.2.2.2.zz.cell 0).trans rfl
      have t0 : k < n := hlt
      clear hr1 hx hxb hz
      go_upto_region 6 with (fail)
      have hb3 := below_alloc wr (.cells #[.int .u32 (x.off : Nat), .string (S x.l), .int .i64 x.av] 29)
      have hk3 := Blk.new wr 29 #[.int .u32 (x.off : Nat), .string (S x.l), .int .i64 x.av]
      obtain ⟨q, hq⟩ : ∃ q, wr.heap.size = q := ⟨_, rfl⟩
      rw [hq] at hk3
      simp only [hq]
      have HM3 := Lib.hid (HM.out.2.2.2.2.keep hb3)
      have HK3 := Lib.hid hk3
      clear hb3 hk3 hq c0 c1 c2 z0
      generalize wr.alloc (.cells #[.int .u32 (x.off : Nat), .string (S x.l), .int .i64 x.av] 29) = w3 at *
      go_cut [7, 8, 9] (fun s7 s8 s9 wx => ∃ (ok : Bool) (fr by_ : Int) (e9 : Value), s7 = .int .i64 fr ∧ s8 = .int .i64 by_ ∧ s9 = e9 ∧ Hid (e9 = (if ok = true then .nilIface else .iface 131 (.pointer (some ad)))) ∧ Hid (∃ (A : Option Addr) (c' : Nat) (R' : List Rg) (cov' : Nat) (E' : Option Addr) (m' cE' : Nat), AddRel (stR T k) (stC T k) ⟨x.off, A, c', x.l⟩ x.av ⟨ok, fr, by_, cov', R', none, 0, none, 0⟩ ∧ m' = R'.length ∧ Run R' cov' (k + 1) ∧ RgM g z m' cE' cov' E' R' zeroRest O k co T w wx))
      case first =>
        have z0 : w3.cell? ⟨z, 0, none⟩ = some (.pointer (some ⟨g, 0, none⟩)) := (HM3.out.zz.cell 0).trans rfl
        have k0 : w3.cell? ⟨q, 0, none⟩ = some (.int .u32 (x.off : Nat)) := (HK3.out.cell 0).trans rfl
        have k1 : w3.cell? ⟨q, 1, none⟩ = some (.string (S x.l)) := (HK3.out.cell 1).trans rfl
        go_wp2_with fail
        refine upon_conv_sb 9 65 5 Tryd.underlying9 Tryd.underlying65 Tryd.underlying5 x.l (by have := HX.out.2.1; simp only [maxLen]; omega) ?_
        intro c4 w4 hO4 hb4 hs4
        obtain ⟨d, hd⟩ : ∃ d, w3.heap.size = d := ⟨_, rfl⟩
        rw [hd] at hO4 hs4 ⊢
        have HM4 := Lib.hid (HM3.out.keep hb4)
        have HO4 := Lib.hid hO4
        have HD := Lib.hid (And.intro hd hs4)
        have k2 : w4.cell? ⟨q, 2, none⟩ = some (.int .i64 x.av) := keep_of_below hb4 _ _ ((HK3.out.cell 2).trans rfl)
        have ev4 := keep_of_below HM4.out.bel _ _ HE.out
        clear hO4 hb4 hs4 hd z0 k0 k1
        go_wp2_with fail
        refine (zzAdd g m cE (stC T k) E (some ⟨d, 0, none⟩) x.l.length c4 ⟨x.off, some ⟨d, 0, none⟩, c4, x.l⟩ (stR T k) zeroRest x.av HM.out.2.2.1.symm (by have h1 := HM.out.2.2.2.1.len; have h2 := HM.out.2.2.1; have := HN.out.2.1; omega) HM.out.2.2.2.1.small HM.out.2.2.2.1.asc.sorted (by have := HX.out.2.1; show x.off + x.l.length ≤ 1000000; omega) rfl (fun h => by have := HX.out.2.2; omega) (fun _ => ⟨rfl, rfl⟩) (Nat.le_trans HM.out.2.2.2.1.cov (by omega)) _ w4 ev4 HM4.out.fr (Hi.low HM4.out.hiE) HM4.out.neE HM4.out.loE HM4.out.row).mono ?_
        rintro e w5 ⟨i, hp, h⟩
        rcases h with ⟨h1, rfl, h4⟩ | ⟨h1, h5, rfl, h4⟩ | ⟨h1, h5, rfl, E', n', c', k1, k2', k3, k4, k5, k6, k7⟩
        · have HF := Lib.hid (And.intro hp (And.intro h1 (HM4.out.keep h4)))
          clear hp h1 h4 k2 ev4
          go_wp2_with fail
          go_meet
          case rel => exact ⟨true, 0, 0, _, rfl, rfl, rfl, Lib.hid rfl, Lib.hid ⟨some ⟨d, 0, none⟩, c4, stR T k, stC T k, E, m, cE, ⟨i, HF.out.1, .inl ⟨HF.out.2.1, rfl, rfl, rfl, rfl, rfl⟩⟩, HM.out.2.2.1, HM.out.2.2.2.1.step, HF.out.2.2⟩⟩
        · have HF := Lib.hid (And.intro hp (And.intro h1 (And.intro h5 (HM4.out.keep h4))))
          clear hp h1 h4 h5 k2 ev4
          go_wp2_with fail
          go_meet
          case rel => exact ⟨false, 0, 0, _, rfl, rfl, rfl, Lib.hid rfl, Lib.hid ⟨some ⟨d, 0, none⟩, c4, stR T k, stC T k, E, m, cE, ⟨i, HF.out.1, .inr (.inl ⟨HF.out.2.1, HF.out.2.2.1, rfl, rfl, rfl, rfl, rfl⟩)⟩, HM.out.2.2.1, HM.out.2.2.2.1.step, HF.out.2.2.2⟩⟩
        · have hpos : 0 < n' := by rw [← k1]; unfold addR; simp; omega
          have hdat : ∀ r ∈ addR (stR T k) ⟨x.off, some ⟨d, 0, none⟩, c4, x.l⟩ i, Safe w4 (exc g E O) r.A (vs r.l) := by
            have hf : Safe w4 (exc g E O) (some ⟨d, 0, none⟩) (vs x.l) := .inr ⟨d, rfl, HD.out.2, fun hm => by
              have h0 := HD.out.1
              rcases exc_mem.1 hm with h | h | h
              · have := HM3.out.fr.lt; omega
              · have := HM3.out.loE d h; omega
              · have := HM3.out.loO d h; omega, HO4.out.rd⟩
            intro r hr
            unfold addR at hr
            rcases List.mem_append.1 hr with hr | hr
            · exact HM4.out.dat r (List.mem_of_mem_take hr)
            · rcases List.mem_append.1 hr with hr | hr
              · simp at hr; subst hr; exact hf
              · exact HM4.out.dat r (List.mem_of_mem_drop hr)
          have HF := Lib.hid (And.intro hp (And.intro h1 (And.intro h5 (And.intro k1 (HM4.out.add k1 hpos k2' k3 k4 k5 k6 k7 hdat)))))
          have HRU := Lib.hid (HM.out.2.2.2.1.add (f := ⟨x.off, some ⟨d, 0, none⟩, c4, x.l⟩) HX.out.2.1 hp h1)
          clear hp h1 h5 k1 k2' k3 k4 k5 k6 k7 hdat hpos k2 ev4
          go_wp2_with fail
          go_meet
          case rel => exact ⟨true, _, _, _, rfl, rfl, rfl, Lib.hid rfl, Lib.hid ⟨some ⟨d, 0, none⟩, c4, addR (stR T k) ⟨x.off, some ⟨d, 0, none⟩, c4, x.l⟩ i, _, E', n', c', ⟨i, HF.out.1, .inr (.inr ⟨HF.out.2.1, by have h := HF.out.2.2.1; omega, rfl, rfl, rfl, rfl, rfl⟩)⟩, HF.out.2.2.2.1.symm, HRU.out, HF.out.2.2.2.2⟩⟩
      case rest =>
        obtain ⟨ok, fr, by_, e9, rfl, rfl, rfl, HE9, HJ⟩ := hcut
        obtain ⟨A, cA, R', cov', E', m', cE', ha, hm', hru, hme⟩ := HJ.out
        have HJ2 := Lib.hid (And.intro ha (And.intro hm' (And.intro hru hme)))
        clear HJ ha hm' hru hme HM3 HK3
        generalize wc = w6 at *
        go_upto_region 7 with (fail)
        go_cut [10] (fun s10 wx => ∃ qt, s10 = .pointer (some ⟨qt, 0, none⟩) ∧ Hid (w6.heap.size ≤ qt ∧ Blk wx qt 36 #[.bool ok, .int .i64 fr, .int .i64 by_, .int .u32 (cov' : Nat), .slice none 0 0, .slice none 0 0] ∧ Below w6.heap.size w6 wx))
        case first =>
          have z6 : w6.cell? ⟨z, 0, none⟩ = some (.pointer (some ⟨g, 0, none⟩)) := (HJ2.out.2.2.2.zz.cell 0).trans rfl
          have z6' : w6.drew.cell? ⟨z, 0, none⟩ = some (.pointer (some ⟨g, 0, none⟩)) := z6
          have HC := Lib.hid (fun W (hW : Below w6.heap.size w6 W) => zzCov g m' cE' cov' E' zeroRest W (HJ2.out.2.2.2.fr.keep hW))
          have zA : (w6.alloc (.cells #[.bool false, .int .i64 0, .int .i64 0, .int .u32 0, .slice none 0 0, .slice none 0 0] 36)).drew.cell? ⟨z, 0, none⟩ = some (.pointer (some ⟨g, 0, none⟩)) := ((HJ2.out.2.2.2.zz.keep ((below_alloc w6 _).drew)).cell 0).trans rfl
          have HQ : Hid (∀ W, Below (w6.alloc (.cells #[.bool false, .int .i64 0, .int .i64 0, .int .u32 0, .slice none 0 0, .slice none 0 0] 36)).heap.size (w6.alloc (.cells #[.bool false, .int .i64 0, .int .i64 0, .int .u32 0, .slice none 0 0, .slice none 0 0] 36)) W → Blk W w6.heap.size 36 #[.bool false, .int .i64 0, .int .i64 0, .int .u32 0, .slice none 0 0, .slice none 0 0]) := Lib.hid fun W hW => (Blk.new w6 36 _).keep hW
          cases ok
          all_goals
            have he9 := HE9.out
            simp only [Bool.false_eq_true, if_false, if_true] at he9
            subst he9
            go_region_law (first
              | (go_simp; go_at_call 17; (with_reducible refine (HC.out _ (below_drew _)).mono ?_); rintro e w7 ⟨rfl, hb7⟩)
              | (go_simp; go_at_call 17; (with_reducible refine (HC.out _ ((below_alloc w6 _).drew)).mono ?_); rintro e w7 ⟨rfl, hb7⟩; obtain ⟨q0, q1, q2, q3, q4, q5, p0, p1, p2, p3, p4, p5⟩ := told_cells (HQ.out w7 (below_two (below_drew _) hb7))))
            all_goals
              first
              | (have hf : Hid (w6.heap.size ≤ w7.heap.size ∧ Below w6.heap.size w6 w7) := Lib.hid ⟨hb7.size, below_two (below_drew _) hb7⟩
                 clear hb7
                 go_wp2_with fail
                 go_meet
                 case rel => exact ⟨_, rfl, Lib.hid ⟨hf.out.1, Blk.new _ _ _, below_two hf.out.2 (below_alloc _ _)⟩⟩)
              | (have hf : Hid (Below w6.heap.size w6 w7 ∧ Blk w7 w6.heap.size 36 #[.bool false, .int .i64 0, .int .i64 0, .int .u32 0, .slice none 0 0, .slice none 0 0]) := Lib.hid ⟨below_two ((below_alloc w6 _).drew) hb7, HQ.out w7 (below_two (below_drew _) hb7)⟩
                 clear hb7 q0 q1 q2 q3 q4 q5 p0 p1 p2 p3 p4 p5
                 go_wp2_with fail
                 go_meet
                 case rel => exact ⟨_, rfl, Lib.hid ⟨Nat.le_refl _, (told_set hf.out.2 _ _ _ _ _ _).1, (told_set hf.out.2 _ _ _ _ _ _).2 hf.out.1 (Nat.le_refl _)⟩⟩)
        case rest =>
          obtain ⟨qt, rfl, HQT⟩ := hcut
          generalize wc = w7 at *
          have z7 : w7.cell? ⟨z, 0, none⟩ = some (.pointer (some ⟨g, 0, none⟩)) := keep_of_below HQT.out.2.2 _ _ ((HJ2.out.2.2.2.zz.cell 0).trans rfl)
          go_wp2_with fail
          refine (zzLen g m' cE' cov' E' zeroRest w7 (HJ2.out.2.2.2.fr.keep HQT.out.2.2)).mono ?_
          rintro e w8 ⟨rfl, hb8⟩
          have HB8 := Lib.hid (below_two HQT.out.2.2 hb8)
          have HK8 := Lib.hid (HQT.out.2.1.keep hb8)
          clear hb8 z7
          go_wp2_with fail
          go_loopw [43] (fun u wr2 => ∃ j : Nat, j ≤ m' ∧ u = .int .i64 (j : Nat) ∧ Hid (∃ (A1 : Option Addr) (c1 : Nat) (A2 : Option Addr) (c2 : Nat), TIn ok fr by_ cov' qt j c1 c2 A1 A2 R' w6 wr2)) (fun u _ => m' - (intOf u).toNat)
          case atStart => exact ⟨0, Nat.zero_le _, rfl, Lib.hid ⟨none, 0, none, 0, ⟨HK8.out, Own.nil _ _ _, .inl rfl, Lo.none _, Own.nil _ _ _, .inl rfl, Lo.none _, by simp, HB8.out⟩⟩⟩
          case round =>
            obtain ⟨j, hjm, rfl, HI⟩ := hrel
            obtain ⟨A1, c1, A2, c2, hin⟩ := HI.out
            have HIN := Lib.hid hin
            clear HI hin
            by_cases hlj : j < m'
            · obtain ⟨r, hr⟩ : ∃ r, R'[j]? = some r := ⟨_, List.getElem?_eq_getElem (by have := HJ2.out.2.1; omega)⟩
              have hme := HJ2.out.2.2.2.keep HIN.out.bel
              obtain ⟨a', hEa⟩ := rgAddr (Hi.low hme.hiE) hme.row.rd hr
              subst hEa
              have HR1 := Lib.hid (And.intro hr (And.intro hlj hme))
              have HAT := Lib.hid (zzAt g a' m' cE' cov' j R' zeroRest HJ2.out.2.1.symm r hr _ hme.fr hme.row.rd)
              have z2 : _ := (hme.zz.cell 0).trans rfl
              have t1 : j < m' := hlj
              clear hr hme hlj
              go_wp2_with fail
              refine HAT.out.mono ?_
              rintro e w9 ⟨rfl, hb9⟩
              have HI9 := Lib.hid (HIN.out.keep hb9)
              have HME9 := Lib.hid (HR1.out.2.2.keep hb9)
              clear hb9 z2 HAT
              go_upto_region 12 with (fail)
              -- R12
              have HS : Hid (∀ W, Tch ((A1.map (·.block)).toList ++ (A2.map (·.block)).toList) w9 W → W.cell? ⟨qt, 4, none⟩ = some (.slice A1 j c1) ∧ W.cell? ⟨qt, 5, none⟩ = some (.slice A2 j c2) ∧ (convert 65 9 (.slice r.A r.l.length r.c)).run Tryd.prog W = .ok (.string (S r.l)) W) := Lib.hid fun W hT => by
                have hk := HI9.out.blk.tch hT HI9.out.away
                have hsf := HJ2.out.2.2.2.dat r (List.mem_of_getElem? HR1.out.1)
                have hrd : Rd W r.A (vs r.l) := HI9.out.old hsf HQT.out.1 hT
                exact ⟨(hk.cell 4).trans rfl, (hk.cell 5).trans rfl, run_conv_bs W _ _ 5 Tryd.underlying65 Tryd.underlying5 Tryd.underlying9 r.l _ _ _ rfl hrd⟩
              have HP10 : Hid (P12 w9 j c1 c2 A1 A2 R' w9.drew) := Lib.hid ⟨(Tch.drew w9).more (by simp), HI9.out.o1.keep (below_drew w9), HI9.out.o2.keep (below_drew w9)⟩
              refine wpAnyL.region (S := (fun L W => L.getD 12 false = false → (W.cell? ⟨qt, 4, none⟩ = some (.slice A1 j c1) ∧ W.cell? ⟨qt, 5, none⟩ = some (.slice A2 j c2) ∧ (convert 65 9 (.slice r.A r.l.length r.c)).run Tryd.prog W = .ok (.string (S r.l)) W))) (by kernel_rfl) (fun hc => ?_)
              generalize w9.drew = w10 at *
              have HS0 := HS.out w10 HP10.out.t
              refine wpAnyL.take (i := 0) (v := .pointer (some ⟨qt, 4, none⟩)) rfl (by kernel_rfl) (by kernel_rfl) (by kernel_rfl) (fun _ _ _ h => h) (fun L W h h12 => h (by rw [getD_set_ne false (by decide)]; exact h12)) hc (Or.inl ⟨by rfl, fun W hW => ?_⟩) (fun _ => HS0) (fun hc1 => ?_)
              · go_simp
              clear hc
              refine wpAnyL.take (i := 1) (v := .slice A1 j c1) rfl (by kernel_rfl) (by kernel_rfl) (by kernel_rfl) (fun _ _ _ h => h) (fun L W h h12 => h (by rw [getD_set_ne false (by decide)]; exact h12)) hc1 (Or.inl ⟨by rfl, fun W hW => ?_⟩) (fun _ => HS0) (fun hc2 => ?_)
              · obtain ⟨L, h1, h2, h3⟩ := hW
                have h12 := h1.not (by kernel_rfl : waits .any _ 12 1 = true) h2
                obtain ⟨q4, q5, q6⟩ := h3 h12
                go_simp
              clear hc1
              refine wpAnyL.take (i := 2) (v := .int .u32 (r.off : Nat)) rfl (by kernel_rfl) (by kernel_rfl) (by kernel_rfl) (fun _ _ _ h => h) (fun L W h h12 => h (by rw [getD_set_ne false (by decide)]; exact h12)) hc2 (Or.inl ⟨by rfl, fun W hW => ?_⟩) (fun _ => HS0) (fun hc3 => ?_)
              · go_simp
              clear hc2
              refine wpAnyL.take (i := 5) (v := .pointer (some ⟨qt, 5, none⟩)) rfl (by kernel_rfl) (by kernel_rfl) (by kernel_rfl) (fun _ _ _ h => h) (fun L W h h12 => h (by rw [getD_set_ne false (by decide)]; exact h12)) hc3 (Or.inl ⟨by rfl, fun W hW => ?_⟩) (fun _ => HS0) (fun hc4 => ?_)
              · go_simp
              clear hc3
              refine wpAnyL.take (i := 6) (v := .slice A2 j c2) rfl (by kernel_rfl) (by kernel_rfl) (by kernel_rfl) (fun _ _ _ h => h) (fun L W h h12 => h (by rw [getD_set_ne false (by decide)]; exact h12)) hc4 (Or.inl ⟨by rfl, fun W hW => ?_⟩) (fun _ => HS0) (fun hc5 => ?_)
              · obtain ⟨L, h1, h2, h3⟩ := hW
                have h12 := h1.not (by kernel_rfl : waits .any _ 12 6 = true) h2
                obtain ⟨q4, q5, q6⟩ := h3 h12
                go_simp
              clear hc4
              refine wpAnyL.take (i := 7) (v := .slice r.A r.l.length r.c) rfl (by kernel_rfl) (by kernel_rfl) (by kernel_rfl) (fun _ _ _ h => h) (fun L W h h12 => h (by rw [getD_set_ne false (by decide)]; exact h12)) hc5 (Or.inl ⟨by rfl, fun W hW => ?_⟩) (fun _ => HS0) (fun hc6 => ?_)
              · go_simp
              clear hc5
              refine wpAnyL.take (i := 8) (v := .string (S r.l)) rfl (by kernel_rfl) (by kernel_rfl) (by kernel_rfl) (fun _ _ _ h => h) (fun L W h h12 => h (by rw [getD_set_ne false (by decide)]; exact h12)) hc6 (Or.inl ⟨by rfl, fun W hW => ?_⟩) (fun _ => HS0) (fun hc7 => ?_)
              · obtain ⟨L, h1, h2, h3⟩ := hW
                have h12 := h1.not (by kernel_rfl : waits .any _ 12 10 = true) (h1.not (by kernel_rfl : waits .any _ 10 9 = true) (h1.not (by kernel_rfl : waits .any _ 9 8 = true) h2))
                obtain ⟨q4, q5, q6⟩ := h3 h12
                go_simp
              clear hc6
              have hjn : j ≤ 1000 := by have h1 := HR1.out.2.1; have h2 := HJ2.out.2.1; have h3 := HJ2.out.2.2.1.len; have := HN.out.2.1; omega
              refine wpAnyL.all (rs := [3, 9]) (by kernel_rfl) (by simp) hc7 (fun i hi hd1 => ?_)
              clear hc7
              rcases List.mem_cons.1 hi with rfl | hi
              · refine wpOp_step rfl (fun K hK => ?_)
                have HK := Lib.hid hK
                clear hK
                go_simp
                have hb1_3 := below_alloc w10 (.cells #[.int .u32 (r.off : Nat)] 27)
                have HP1_3 := Lib.hid (HP10.out.keep hb1_3)
                have HV1_3 : Hid (Rd (World.alloc w10 (.cells #[.int .u32 (r.off : Nat)] 27)) (some ⟨w10.heap.size, 0, none⟩) [.int .u32 (r.off : Nat)]) := Lib.hid (rd_single w10 27 (.int .u32 (r.off : Nat)))
                obtain ⟨v1_3, hv1_3⟩ : ∃ v, w10.heap.size = v := ⟨_, rfl⟩
                have HL1_3 : Hid (w9.heap.size ≤ v1_3) := Lib.hid (by rw [← hv1_3]; exact HP10.out.t.size)
                rw [hv1_3] at HV1_3
                simp only [hv1_3]
                generalize World.alloc w10 (.cells #[.int .u32 (r.off : Nat)] 27) = w1_3 at *
                clear hb1_3 hv1_3
                refine HK.out _ _ ⟨fun _ => HS.out _ HP1_3.out.t, ?_⟩
                clear HK
                refine wpAnyL.all (rs := [4, 9]) (by kernel_rfl) (by simp) hd1 (fun i hi hd2 => ?_)
                clear hd1
                rcases List.mem_cons.1 hi with rfl | hi
                · refine wpOp_step rfl (fun K hK => ?_)
                  have HK := Lib.hid hK
                  clear hK
                  refine step_append rfl (.tmp 53) (.tmp 55) 33 33 rfl 0 27 (.int .u32 0) 1 4 Tryd.underlying33 (.inl Tryd.underlying33) u32info rfl (by omega) rfl rfl HP1_3.out.o1 (m := 1) (ys := [.int .u32 (r.off : Nat)]) ⟨rfl, by simp [Value.oneCell'], .inl ⟨_, _, rfl, HV1_3.out⟩⟩ (by omega) (by simp only [maxLen]; omega) (Nat.zero_le _) ?_
                  intro A2_4 c2_4 w2_4 hO hg hor
                  have HQ2_4 : Hid (Q12 w9 j c2_4 c2 A1 A2_4 A2 R' [.int .u32 (r.off : Nat)] w2_4) := Lib.hid (HP1_3.out.one HI9.out hO hg hor)
                  clear hO hg hor
                  refine HK.out _ _ ⟨fun _ => HS.out _ HQ2_4.out.t, ?_⟩
                  clear HK
                  refine wpAnyL.take (i := 11) (v := .pointer (some ⟨qt, 4, none⟩)) rfl (by kernel_rfl) (by kernel_rfl) (by kernel_rfl) (fun _ _ _ h => h) (fun L W h h12 => h (by rw [getD_set_ne false (by decide)]; exact h12)) hd2 (Or.inl ⟨by rfl, fun W hW => ?_⟩) (fun _ => HS.out _ HQ2_4.out.t) (fun he2 => ?_)
                  · go_simp
                  clear hd2
                  refine wpAnyL.all (rs := [9]) (by kernel_rfl) (by simp) he2 (fun i hi hd3 => ?_)
                  clear he2
                  rcases List.mem_cons.1 hi with rfl | hi
                  · refine wpOp_step rfl (fun K hK => ?_)
                    have HK := Lib.hid hK
                    clear hK
                    go_simp
                    have hb3_9 := below_alloc w2_4 (.cells #[.string (S r.l)] 9)
                    have HP3_9 := Lib.hid (HQ2_4.out.keep hb3_9)
                    have HV3_9 : Hid (Rd (World.alloc w2_4 (.cells #[.string (S r.l)] 9)) (some ⟨w2_4.heap.size, 0, none⟩) [.string (S r.l)]) := Lib.hid (rd_single w2_4 9 (.string (S r.l)))
                    obtain ⟨v3_9, hv3_9⟩ : ∃ v, w2_4.heap.size = v := ⟨_, rfl⟩
                    have HL3_9 : Hid (w9.heap.size ≤ v3_9) := Lib.hid (by rw [← hv3_9]; exact HQ2_4.out.t.size)
                    rw [hv3_9] at HV3_9
                    simp only [hv3_9]
                    generalize World.alloc w2_4 (.cells #[.string (S r.l)] 9) = w3_9 at *
                    clear hb3_9 hv3_9
                    refine HK.out _ _ ⟨fun _ => HS.out _ HP3_9.out.t, ?_⟩
                    clear HK
                    refine wpAnyL.all (rs := [10]) (by kernel_rfl) (by simp) hd3 (fun i hi hd4 => ?_)
                    clear hd3
                    rcases List.mem_cons.1 hi with rfl | hi
                    · refine wpOp_step rfl (fun K hK => ?_)
                      have HK := Lib.hid hK
                      clear hK
                      refine step_append rfl (.tmp 58) (.tmp 61) 34 34 rfl 0 9 (.string ByteArray.empty) 1 16 Tryd.underlying34 (.inl Tryd.underlying34) strinfo rfl (by omega) rfl rfl HP3_9.out.o2 (m := 1) (ys := [.string (S r.l)]) ⟨rfl, by simp [Value.oneCell'], .inl ⟨_, _, rfl, HV3_9.out⟩⟩ (by omega) (by simp only [maxLen]; omega) (Nat.zero_le _) ?_
                      intro A4_10 c4_10 w4_10 hO hg hor
                      have HE4_10 : Hid (E12 w9 j c2_4 c4_10 A1 A2_4 A2 A4_10 R' [.int .u32 (r.off : Nat)] [.string (S r.l)] w4_10) := Lib.hid (HP3_9.out.two HI9.out hO hg hor)
                      clear hO hg hor
                      refine HK.out _ _ ⟨fun _ => HS.out _ HE4_10.out.t, ?_⟩
                      clear HK
                      refine wpAnyL.all (rs := [12]) (by kernel_rfl) (by simp) hd4 (fun i hi hd5 => ?_)
                      clear hd4
                      rcases List.mem_cons.1 hi with rfl | hi
                      · refine wpOp_step rfl (fun K hK => ?_)
                        have HK := Lib.hid hK
                        clear hK
                        have hk5_12 := HI9.out.blk.tch HE4_10.out.t HI9.out.away
                        have k5_12 := (hk5_12.cell 4).trans rfl
                        have f5_12 := hk5_12.frozen 4
                        clear hk5_12
                        go_simp
                        refine HK.out _ _ ⟨fun h => absurd (show (true : Bool) = false from h) (by decide), ?_⟩
                        clear HK k5_12 f5_12
                        refine wpAnyL.take (i := 13) (v := .pointer (some ⟨qt, 5, none⟩)) rfl (by kernel_rfl) (by kernel_rfl) (by kernel_rfl) (fun _ _ _ h => h) (fun L W h h12 => h (by rw [getD_set_ne false (by decide)]; exact h12)) hd5 (Or.inl ⟨by rfl, fun W hW => ?_⟩) (fun h => absurd (show (true : Bool) = false from h) (by decide)) (fun hf5 => ?_)
                        · go_simp
                        clear hd5
                        refine wpAnyL.all (rs := [14]) (by kernel_rfl) (by simp) hf5 (fun i hi hd6 => ?_)
                        clear hf5
                        rcases List.mem_cons.1 hi with rfl | hi
                        · refine wpOp_step rfl (fun K hK => ?_)
                          have HK := Lib.hid hK
                          clear hK
                          have hk6_14 := (HI9.out.blk.tch HE4_10.out.t HI9.out.away).set_ 4 (.slice A2_4 (j + 1) c2_4)
                          have k6_14 := (hk6_14.cell 5).trans rfl
                          have f6_14 := hk6_14.frozen 5
                          clear hk6_14
                          go_simp
                          refine HK.out _ _ ⟨fun h => absurd (show (true : Bool) = false from h) (by decide), ?_⟩
                          clear HK k6_14 f6_14
                          refine wpAnyL.done (by kernel_rfl) ?_ _
                          have HT2 := Lib.hid (fun h => tin_end HI9.out HE4_10.out h HQT.out.1)
                          have HIN2 : Hid (wrap64 ((j : Int) + 1) = (j : Int) + 1) := Lib.hid (w64_inc HR1.out.2.1 (by have h2 := HJ2.out.2.1; have h3 := HJ2.out.2.2.1.len; have := HN.out.2.1; omega))
                          have HT3 := Lib.hid (HT2.out HR1.out.1)
                          clear HT2 HE4_10
                          clear hd6
                          generalize World.setCell (World.setCell w4_10 _ _) _ _ = wE at *
                          have jw := HIN2.out
                          go_wp2_with fail
                          go_roundw
                          case rel => exact ⟨j + 1, HR1.out.2.1, by first | (rw [jw]; go_num) | go_num, Lib.hid ⟨_, _, _, _, HT3.out⟩⟩
                          case measure => first | exact t_measD HR1.out.2.1 | (rw [jw]; exact t_measD HR1.out.2.1)
                        · cases hi
                      · cases hi
                    · cases hi
                  · cases hi
                rcases List.mem_cons.1 hi with rfl | hi
                · refine wpOp_step rfl (fun K hK => ?_)
                  have HK := Lib.hid hK
                  clear hK
                  go_simp
                  have hb2_9 := below_alloc w1_3 (.cells #[.string (S r.l)] 9)
                  have HP2_9 := Lib.hid (HP1_3.out.keep hb2_9)
                  have HV2_9 : Hid (Rd (World.alloc w1_3 (.cells #[.string (S r.l)] 9)) (some ⟨w1_3.heap.size, 0, none⟩) [.string (S r.l)]) := Lib.hid (rd_single w1_3 9 (.string (S r.l)))
                  obtain ⟨v2_9, hv2_9⟩ : ∃ v, w1_3.heap.size = v := ⟨_, rfl⟩
                  have HL2_9 : Hid (w9.heap.size ≤ v2_9) := Lib.hid (by rw [← hv2_9]; exact HP1_3.out.t.size)
                  rw [hv2_9] at HV2_9
                  simp only [hv2_9]
                  have HV2_9x := Lib.hid (HV1_3.out.keep hb2_9)
                  generalize World.alloc w1_3 (.cells #[.string (S r.l)] 9) = w2_9 at *
                  clear hb2_9 hv2_9
                  refine HK.out _ _ ⟨fun _ => HS.out _ HP2_9.out.t, ?_⟩
                  clear HK
                  refine wpAnyL.all (rs := [4]) (by kernel_rfl) (by simp) hd2 (fun i hi hd7 => ?_)
                  clear hd2
                  rcases List.mem_cons.1 hi with rfl | hi
                  · refine wpOp_step rfl (fun K hK => ?_)
                    have HK := Lib.hid hK
                    clear hK
                    refine step_append rfl (.tmp 53) (.tmp 55) 33 33 rfl 0 27 (.int .u32 0) 1 4 Tryd.underlying33 (.inl Tryd.underlying33) u32info rfl (by omega) rfl rfl HP2_9.out.o1 (m := 1) (ys := [.int .u32 (r.off : Nat)]) ⟨rfl, by simp [Value.oneCell'], .inl ⟨_, _, rfl, HV2_9x.out⟩⟩ (by omega) (by simp only [maxLen]; omega) (Nat.zero_le _) ?_
                    intro A7_4 c7_4 w7_4 hO hg hor
                    have HQ7_4 : Hid (Q12 w9 j c7_4 c2 A1 A7_4 A2 R' [.int .u32 (r.off : Nat)] w7_4) := Lib.hid (HP2_9.out.one HI9.out hO hg hor)
                    have HV7_4x := Lib.hid (HV2_9.out.tch (Tch.grown hg) (HI9.out.newer1 HL2_9.out))
                    clear hO hg hor
                    refine HK.out _ _ ⟨fun _ => HS.out _ HQ7_4.out.t, ?_⟩
                    clear HK
                    refine wpAnyL.take (i := 11) (v := .pointer (some ⟨qt, 4, none⟩)) rfl (by kernel_rfl) (by kernel_rfl) (by kernel_rfl) (fun _ _ _ h => h) (fun L W h h12 => h (by rw [getD_set_ne false (by decide)]; exact h12)) hd7 (Or.inl ⟨by rfl, fun W hW => ?_⟩) (fun _ => HS.out _ HQ7_4.out.t) (fun he7 => ?_)
                    · go_simp
                    clear hd7
                    refine wpAnyL.all (rs := [10]) (by kernel_rfl) (by simp) he7 (fun i hi hd8 => ?_)
                    clear he7
                    rcases List.mem_cons.1 hi with rfl | hi
                    · refine wpOp_step rfl (fun K hK => ?_)
                      have HK := Lib.hid hK
                      clear hK
                      refine step_append rfl (.tmp 58) (.tmp 61) 34 34 rfl 0 9 (.string ByteArray.empty) 1 16 Tryd.underlying34 (.inl Tryd.underlying34) strinfo rfl (by omega) rfl rfl HQ7_4.out.o2 (m := 1) (ys := [.string (S r.l)]) ⟨rfl, by simp [Value.oneCell'], .inl ⟨_, _, rfl, HV7_4x.out⟩⟩ (by omega) (by simp only [maxLen]; omega) (Nat.zero_le _) ?_
                      intro A8_10 c8_10 w8_10 hO hg hor
                      have HE8_10 : Hid (E12 w9 j c7_4 c8_10 A1 A7_4 A2 A8_10 R' [.int .u32 (r.off : Nat)] [.string (S r.l)] w8_10) := Lib.hid (HQ7_4.out.two HI9.out hO hg hor)
                      clear hO hg hor
                      refine HK.out _ _ ⟨fun _ => HS.out _ HE8_10.out.t, ?_⟩
                      clear HK
                      refine wpAnyL.all (rs := [12]) (by kernel_rfl) (by simp) hd8 (fun i hi hd9 => ?_)
                      clear hd8
                      rcases List.mem_cons.1 hi with rfl | hi
                      · refine wpOp_step rfl (fun K hK => ?_)
                        have HK := Lib.hid hK
                        clear hK
                        have hk9_12 := HI9.out.blk.tch HE8_10.out.t HI9.out.away
                        have k9_12 := (hk9_12.cell 4).trans rfl
                        have f9_12 := hk9_12.frozen 4
                        clear hk9_12
                        go_simp
                        refine HK.out _ _ ⟨fun h => absurd (show (true : Bool) = false from h) (by decide), ?_⟩
                        clear HK k9_12 f9_12
                        refine wpAnyL.take (i := 13) (v := .pointer (some ⟨qt, 5, none⟩)) rfl (by kernel_rfl) (by kernel_rfl) (by kernel_rfl) (fun _ _ _ h => h) (fun L W h h12 => h (by rw [getD_set_ne false (by decide)]; exact h12)) hd9 (Or.inl ⟨by rfl, fun W hW => ?_⟩) (fun h => absurd (show (true : Bool) = false from h) (by decide)) (fun hf9 => ?_)
                        · go_simp
                        clear hd9
                        refine wpAnyL.all (rs := [14]) (by kernel_rfl) (by simp) hf9 (fun i hi hd10 => ?_)
                        clear hf9
                        rcases List.mem_cons.1 hi with rfl | hi
                        · refine wpOp_step rfl (fun K hK => ?_)
                          have HK := Lib.hid hK
                          clear hK
                          have hk10_14 := (HI9.out.blk.tch HE8_10.out.t HI9.out.away).set_ 4 (.slice A7_4 (j + 1) c7_4)
                          have k10_14 := (hk10_14.cell 5).trans rfl
                          have f10_14 := hk10_14.frozen 5
                          clear hk10_14
                          go_simp
                          refine HK.out _ _ ⟨fun h => absurd (show (true : Bool) = false from h) (by decide), ?_⟩
                          clear HK k10_14 f10_14
                          refine wpAnyL.done (by kernel_rfl) ?_ _
                          have HT2 := Lib.hid (fun h => tin_end HI9.out HE8_10.out h HQT.out.1)
                          have HIN2 : Hid (wrap64 ((j : Int) + 1) = (j : Int) + 1) := Lib.hid (w64_inc HR1.out.2.1 (by have h2 := HJ2.out.2.1; have h3 := HJ2.out.2.2.1.len; have := HN.out.2.1; omega))
                          have HT3 := Lib.hid (HT2.out HR1.out.1)
                          clear HT2 HE8_10
                          clear hd10
                          generalize World.setCell (World.setCell w8_10 _ _) _ _ = wE at *
                          have jw := HIN2.out
                          go_wp2_with fail
                          go_roundw
                          case rel => exact ⟨j + 1, HR1.out.2.1, by first | (rw [jw]; go_num) | go_num, Lib.hid ⟨_, _, _, _, HT3.out⟩⟩
                          case measure => first | exact t_measD HR1.out.2.1 | (rw [jw]; exact t_measD HR1.out.2.1)
                        · cases hi
                      · cases hi
                    · cases hi
                  · cases hi
                · cases hi
              rcases List.mem_cons.1 hi with rfl | hi
              · refine wpOp_step rfl (fun K hK => ?_)
                have HK := Lib.hid hK
                clear hK
                go_simp
                have hb1_9 := below_alloc w10 (.cells #[.string (S r.l)] 9)
                have HP1_9 := Lib.hid (HP10.out.keep hb1_9)
                have HV1_9 : Hid (Rd (World.alloc w10 (.cells #[.string (S r.l)] 9)) (some ⟨w10.heap.size, 0, none⟩) [.string (S r.l)]) := Lib.hid (rd_single w10 9 (.string (S r.l)))
                obtain ⟨v1_9, hv1_9⟩ : ∃ v, w10.heap.size = v := ⟨_, rfl⟩
                have HL1_9 : Hid (w9.heap.size ≤ v1_9) := Lib.hid (by rw [← hv1_9]; exact HP10.out.t.size)
                rw [hv1_9] at HV1_9
                simp only [hv1_9]
                generalize World.alloc w10 (.cells #[.string (S r.l)] 9) = w1_9 at *
                clear hb1_9 hv1_9
                refine HK.out _ _ ⟨fun _ => HS.out _ HP1_9.out.t, ?_⟩
                clear HK
                refine wpAnyL.all (rs := [3]) (by kernel_rfl) (by simp) hd1 (fun i hi hd11 => ?_)
                clear hd1
                rcases List.mem_cons.1 hi with rfl | hi
                · refine wpOp_step rfl (fun K hK => ?_)
                  have HK := Lib.hid hK
                  clear hK
                  go_simp
                  have hb11_3 := below_alloc w1_9 (.cells #[.int .u32 (r.off : Nat)] 27)
                  have HP11_3 := Lib.hid (HP1_9.out.keep hb11_3)
                  have HV11_3 : Hid (Rd (World.alloc w1_9 (.cells #[.int .u32 (r.off : Nat)] 27)) (some ⟨w1_9.heap.size, 0, none⟩) [.int .u32 (r.off : Nat)]) := Lib.hid (rd_single w1_9 27 (.int .u32 (r.off : Nat)))
                  obtain ⟨v11_3, hv11_3⟩ : ∃ v, w1_9.heap.size = v := ⟨_, rfl⟩
                  have HL11_3 : Hid (w9.heap.size ≤ v11_3) := Lib.hid (by rw [← hv11_3]; exact HP1_9.out.t.size)
                  rw [hv11_3] at HV11_3
                  simp only [hv11_3]
                  have HV11_3x := Lib.hid (HV1_9.out.keep hb11_3)
                  generalize World.alloc w1_9 (.cells #[.int .u32 (r.off : Nat)] 27) = w11_3 at *
                  clear hb11_3 hv11_3
                  refine HK.out _ _ ⟨fun _ => HS.out _ HP11_3.out.t, ?_⟩
                  clear HK
                  refine wpAnyL.all (rs := [4]) (by kernel_rfl) (by simp) hd11 (fun i hi hd12 => ?_)
                  clear hd11
                  rcases List.mem_cons.1 hi with rfl | hi
                  · refine wpOp_step rfl (fun K hK => ?_)
                    have HK := Lib.hid hK
                    clear hK
                    refine step_append rfl (.tmp 53) (.tmp 55) 33 33 rfl 0 27 (.int .u32 0) 1 4 Tryd.underlying33 (.inl Tryd.underlying33) u32info rfl (by omega) rfl rfl HP11_3.out.o1 (m := 1) (ys := [.int .u32 (r.off : Nat)]) ⟨rfl, by simp [Value.oneCell'], .inl ⟨_, _, rfl, HV11_3.out⟩⟩ (by omega) (by simp only [maxLen]; omega) (Nat.zero_le _) ?_
                    intro A12_4 c12_4 w12_4 hO hg hor
                    have HQ12_4 : Hid (Q12 w9 j c12_4 c2 A1 A12_4 A2 R' [.int .u32 (r.off : Nat)] w12_4) := Lib.hid (HP11_3.out.one HI9.out hO hg hor)
                    have HV12_4x := Lib.hid (HV11_3x.out.tch (Tch.grown hg) (HI9.out.newer1 HL1_9.out))
                    clear hO hg hor
                    refine HK.out _ _ ⟨fun _ => HS.out _ HQ12_4.out.t, ?_⟩
                    clear HK
                    refine wpAnyL.take (i := 11) (v := .pointer (some ⟨qt, 4, none⟩)) rfl (by kernel_rfl) (by kernel_rfl) (by kernel_rfl) (fun _ _ _ h => h) (fun L W h h12 => h (by rw [getD_set_ne false (by decide)]; exact h12)) hd12 (Or.inl ⟨by rfl, fun W hW => ?_⟩) (fun _ => HS.out _ HQ12_4.out.t) (fun he12 => ?_)
                    · go_simp
                    clear hd12
                    refine wpAnyL.all (rs := [10]) (by kernel_rfl) (by simp) he12 (fun i hi hd13 => ?_)
                    clear he12
                    rcases List.mem_cons.1 hi with rfl | hi
                    · refine wpOp_step rfl (fun K hK => ?_)
                      have HK := Lib.hid hK
                      clear hK
                      refine step_append rfl (.tmp 58) (.tmp 61) 34 34 rfl 0 9 (.string ByteArray.empty) 1 16 Tryd.underlying34 (.inl Tryd.underlying34) strinfo rfl (by omega) rfl rfl HQ12_4.out.o2 (m := 1) (ys := [.string (S r.l)]) ⟨rfl, by simp [Value.oneCell'], .inl ⟨_, _, rfl, HV12_4x.out⟩⟩ (by omega) (by simp only [maxLen]; omega) (Nat.zero_le _) ?_
                      intro A13_10 c13_10 w13_10 hO hg hor
                      have HE13_10 : Hid (E12 w9 j c12_4 c13_10 A1 A12_4 A2 A13_10 R' [.int .u32 (r.off : Nat)] [.string (S r.l)] w13_10) := Lib.hid (HQ12_4.out.two HI9.out hO hg hor)
                      clear hO hg hor
                      refine HK.out _ _ ⟨fun _ => HS.out _ HE13_10.out.t, ?_⟩
                      clear HK
                      refine wpAnyL.all (rs := [12]) (by kernel_rfl) (by simp) hd13 (fun i hi hd14 => ?_)
                      clear hd13
                      rcases List.mem_cons.1 hi with rfl | hi
                      · refine wpOp_step rfl (fun K hK => ?_)
                        have HK := Lib.hid hK
                        clear hK
                        have hk14_12 := HI9.out.blk.tch HE13_10.out.t HI9.out.away
                        have k14_12 := (hk14_12.cell 4).trans rfl
                        have f14_12 := hk14_12.frozen 4
                        clear hk14_12
                        go_simp
                        refine HK.out _ _ ⟨fun h => absurd (show (true : Bool) = false from h) (by decide), ?_⟩
                        clear HK k14_12 f14_12
                        refine wpAnyL.take (i := 13) (v := .pointer (some ⟨qt, 5, none⟩)) rfl (by kernel_rfl) (by kernel_rfl) (by kernel_rfl) (fun _ _ _ h => h) (fun L W h h12 => h (by rw [getD_set_ne false (by decide)]; exact h12)) hd14 (Or.inl ⟨by rfl, fun W hW => ?_⟩) (fun h => absurd (show (true : Bool) = false from h) (by decide)) (fun hf14 => ?_)
                        · go_simp
                        clear hd14
                        refine wpAnyL.all (rs := [14]) (by kernel_rfl) (by simp) hf14 (fun i hi hd15 => ?_)
                        clear hf14
                        rcases List.mem_cons.1 hi with rfl | hi
                        · refine wpOp_step rfl (fun K hK => ?_)
                          have HK := Lib.hid hK
                          clear hK
                          have hk15_14 := (HI9.out.blk.tch HE13_10.out.t HI9.out.away).set_ 4 (.slice A12_4 (j + 1) c12_4)
                          have k15_14 := (hk15_14.cell 5).trans rfl
                          have f15_14 := hk15_14.frozen 5
                          clear hk15_14
                          go_simp
                          refine HK.out _ _ ⟨fun h => absurd (show (true : Bool) = false from h) (by decide), ?_⟩
                          clear HK k15_14 f15_14
                          refine wpAnyL.done (by kernel_rfl) ?_ _
                          have HT2 := Lib.hid (fun h => tin_end HI9.out HE13_10.out h HQT.out.1)
                          have HIN2 : Hid (wrap64 ((j : Int) + 1) = (j : Int) + 1) := Lib.hid (w64_inc HR1.out.2.1 (by have h2 := HJ2.out.2.1; have h3 := HJ2.out.2.2.1.len; have := HN.out.2.1; omega))
                          have HT3 := Lib.hid (HT2.out HR1.out.1)
                          clear HT2 HE13_10
                          clear hd15
                          generalize World.setCell (World.setCell w13_10 _ _) _ _ = wE at *
                          have jw := HIN2.out
                          go_wp2_with fail
                          go_roundw
                          case rel => exact ⟨j + 1, HR1.out.2.1, by first | (rw [jw]; go_num) | go_num, Lib.hid ⟨_, _, _, _, HT3.out⟩⟩
                          case measure => first | exact t_measD HR1.out.2.1 | (rw [jw]; exact t_measD HR1.out.2.1)
                        · cases hi
                      · cases hi
                    · cases hi
                  · cases hi
                · cases hi
              · cases hi
              -- R12 end
            · obtain rfl : m' = j := by omega
              have t1 : ¬ m' < m' := Nat.lt_irrefl _
              have c0 := (HIN.out.blk.cell 0).trans rfl
              have c1' := (HIN.out.blk.cell 1).trans rfl
              have c2' := (HIN.out.blk.cell 2).trans rfl
              have c3 := (HIN.out.blk.cell 3).trans rfl
              have c4 := (HIN.out.blk.cell 4).trans rfl
              have c5 := (HIN.out.blk.cell 5).trans rfl
              clear hlj
              go_wp2_with (at_builtin; refine Held.on ?_)
              have HM9 := Lib.hid (HJ2.out.2.2.2.keep HIN.out.bel)
              have hk60 : k ≤ 60 := by have := HN.out.2.1; omega
              refine held_append rfl (.tmp 66) (.tmp 68) 30 30 rfl 0 36 _ 6 80 Tryd.underlying30 (.inl Tryd.underlying30) toldinfo rfl (by omega) (xs := rowsOf tlv T) (ys := tlv ⟨ok, fr, by_, cov', R', A1, c1, A2, c2⟩) (m := 1) rfl rfl (HM9.out.out.keep (below_alloc _ _)) ⟨rfl, tlv_one _, .inl ⟨_, _, rfl, by have h := rd_new wr 36 #[.bool ok, .int .i64 fr, .int .i64 by_, .int .u32 (cov' : Nat), .slice A1 m' c1, .slice A2 m' c2]; rw [HJ2.out.2.1] at h ⊢; exact h⟩⟩ (by omega) (by simp only [maxLen]; omega) (Nat.zero_le _) ?_
              intro O' co' w9 hO hg hor
              obtain ⟨t, ht⟩ : ∃ t : Tl, (⟨ok, fr, by_, cov', R', A1, c1, A2, c2⟩ : Tl) = t := ⟨_, rfl⟩
              have hsafe := ((by have h := HIN.out; rw [HJ2.out.2.1] at h; exact h : TIn ok fr by_ cov' qt R'.length c1 c2 A1 A2 R' w6 wr)).told HQT.out.1 HJ2.out.2.2.2.excs
              have HM10 := Lib.hid ((HM9.out.keep (below_alloc wr _)).told (t := ⟨ok, fr, by_, cov', R', A1, c1, A2, c2⟩) (by rw [rowsOf_append]; simpa [rowsOf] using hO) hg hor (hsafe.1.below (below_alloc wr _)) (hsafe.2.below (below_alloc wr _)))
              obtain ⟨i, ha⟩ := HJ2.out.1
              have HCH : Hid (Chain s (T ++ [t])) := Lib.hid (HM.out.2.1.snoc (A := A) (c := cA) (by rw [HM.out.1]; exact HX.out.1) (by rw [HM.out.1, ← ht]; exact HJ2.out.1))
              have HST : Hid (stR (T ++ [t]) (k + 1) = R' ∧ stC (T ++ [t]) (k + 1) = cov') := Lib.hid (by have h := stR_last T t; rw [HM.out.1, ← ht] at h; rw [← ht]; exact h)
              rw [ht] at HM10
              have kw : wrap64 ((k : Int) + 1) = (k : Int) + 1 := w64_inc hlt (by have := HN.out.2.1; omega)
              have k1 : k + 1 ≤ n := hlt
              clear ha hO hg hor hsafe HM9 c0 c1' c2' c3 c4 c5 hk60
              go_wp2_with fail
              go_roundw
              case rel => exact ⟨k + 1, O', co', k1, by first | (rw [kw]; go_num) | go_num, rfl, Lib.hid ⟨T ++ [t], E', m', cE', by simp [HM.out.1], HCH.out, by rw [HST.out.1]; exact HJ2.out.2.1, by rw [HST.out.1, HST.out.2]; exact HJ2.out.2.2.1, by rw [HST.out.1, HST.out.2]; exact HM10.out⟩⟩
              case measure => first | exact t_measD k1 | (rw [kw]; exact t_measD k1)
    · obtain rfl : n = k := by omega
      have t1 : ¬ n < n := Nat.lt_irrefl _
      clear hlt
      go_wp2_with fail
      go_ret
      exact ⟨O, co, T, rfl, HM.out.1, HM.out.2.1, Hi.low HM.out.2.2.2.2.hiO, HM.out.2.2.2.2.out.rd, fun t ht => ⟨(HM.out.2.2.2.2.tld t ht).1.rd, (HM.out.2.2.2.2.tld t ht).2.rd⟩, HM.out.2.2.2.2.bel⟩
/-- No step at all. -/
theorem ranges_none (A : Option Addr) (c : Nat) (w : World) : Calls Tryd.prog 6 #[.slice A 0 c] w (RgPost [] 0 w) := by
  go_enter Tryd.func6, Tryd.ntmps6
  go_wp2_with fail
  refine (zzNew w).mono ?_
  rintro e w1 ⟨g, rfl, hg1, hk1, hb1⟩
  have HB := Lib.hid hb1
  clear hg1 hk1 hb1
  go_upto_region 2 with (fail)
  have HB2 := Lib.hid (below_two HB.out (below_alloc w1 (.cells #[.pointer (some ⟨g, 0, none⟩)] 59)))
  generalize w1.alloc (.cells #[.pointer (some ⟨g, 0, none⟩)] 59) = w2 at *
  go_wp2_with fail
  go_loopw [17, 4] (fun x y wr => x = .int .i64 0 ∧ y = .slice none 0 0 ∧ Hid (Below w.heap.size w wr)) (fun x _ _ => 0)
  case atStart => exact ⟨rfl, rfl, HB2⟩
  case round =>
    obtain ⟨rfl, rfl, HW⟩ := hrel
    go_wp2_with fail
    go_ret
    exact ⟨none, 0, [], rfl, rfl, fun j x t h => by simp at h, .inl rfl, .inl rfl, by simp, HW.out⟩
theorem ranges_both (s : List St) (A : Option Addr) (n c : Nat) (hl : s.length = n) (hn : n ≤ 60) (hs : ∀ x ∈ s, x.off + x.l.length ≤ 2000 ∧ 0 < x.l.length) (ad : Addr) (w : World) (hr : Rd w A (rowsOf stv s)) (hev : w.cell? ⟨0, 0, none⟩ = some (.iface 131 (.pointer (some ad)))) :
    Calls Tryd.prog 6 #[.slice A n c] w (RgPost s n w) := by
  rcases hr with hr | ⟨b, o, rfl, hr⟩
  · cases s with
    | nil => simp at hl; subst hl; exact ranges_none A c w
    | cons x s => simp [rowsOf, stv] at hr
  · exact ranges_any s b o n c hl hn hs ad w (.inr ⟨b, o, rfl, hr⟩) hev
end Go.Proofs.YtadblfnggmaadaaDoor
