/- Walks: pieces of a message: slices.Insert of one piece. -/
import Derived.Test.YtadblfnggmaadaaDoorRgC
import Derived.StillTailTactics
namespace Go.Proofs.YtadblfnggmaadaaDoor
open Go.RowKit Go.Cv
set_option maxRecDepth 100000
set_option linter.unusedVariables false
theorem rginfo : (Tryd.prog.info? 94).map (fun i => (i.zero, i.size, i.bytes)) = some (some (.agg #[.int .u32 0, .slice none 0 0]), 2, 32) := by kernel_rfl
theorem rgsize : (Tryd.prog.info? 94).map (·.size) = some 2 := by kernel_rfl
theorem Rd.dropS {w : World} {b o k : Nat} {xs ys : List Value} (h : Rd w (some ⟨b, o, none⟩) (xs ++ ys)) (hk : xs.length = k) : Rd w (some ⟨b, o + k, none⟩) ys := by
  have h2 := h.drop k
  rw [List.drop_left' hk] at h2
  simpa [add_lit] using h2
theorem at_copyR {P : Program} {ops : Array Oper} {rest : List Oper} {dst : Option Nat} {ar : Array Operand} {ts : Array TypeId} {ty : TypeId} {ps : String} {af} {g} {a : Act} {Q : Exit → Act → World → Prop} {w : World}
    (h : Held (wpList P ops Q (⟨dst, .call { callee := .builtin .copy, args := ar, argTypes := ts }, ty, ps, af, g⟩ :: rest) a w)) : wpList P ops Q (⟨dst, .call { callee := .builtin .copy, args := ar, argTypes := ts }, ty, ps, af, g⟩ :: rest) a w := Held.on h
theorem at_clearR {P : Program} {ops : Array Oper} {rest : List Oper} {dst : Option Nat} {ar : Array Operand} {ts : Array TypeId} {ty : TypeId} {ps : String} {af} {g} {a : Act} {Q : Exit → Act → World → Prop} {w : World}
    (h : Held (wpList P ops Q (⟨dst, .call { callee := .builtin .clear, args := ar, argTypes := ts }, ty, ps, af, g⟩ :: rest) a w)) : wpList P ops Q (⟨dst, .call { callee := .builtin .clear, args := ar, argTypes := ts }, ty, ps, af, g⟩ :: rest) a w := Held.on h
theorem ins_list (P Q F ys : List Value) (k k1 : Nat) (hP : P.length = k) (hF : F.length = 2) (hk : k + 2 = k1) (hy : (P ++ ys).length = k1 + Q.length) :
    ((P ++ ys).take k ++ (F ++ (P ++ ys).drop (k + 2))).take k1 ++ (Q ++ ((P ++ ys).take k ++ (F ++ (P ++ ys).drop (k + 2))).drop (k1 + Q.length)) = P ++ (F ++ Q) := by
  have h1 : ((P ++ ys).take k ++ (F ++ (P ++ ys).drop (k + 2))).length = k1 + Q.length := by
    rw [List.length_append, List.length_append, List.length_take, List.length_drop, hy, hF]; omega
  have h2 : (P ++ ys).take k ++ (F ++ (P ++ ys).drop (k + 2)) = (P ++ F) ++ (P ++ ys).drop (k + 2) := by rw [List.take_left' hP, List.append_assoc]
  generalize (P ++ ys).take k ++ (F ++ (P ++ ys).drop (k + 2)) = Z at *
  have h3 : Z.drop (k1 + Q.length) = [] := List.drop_of_length_le (by omega)
  have h4 : Z.take k1 = P ++ F := by rw [h2, List.take_left' (by rw [List.length_append, hP, hF, hk])]
  rw [h3, h4, List.append_nil, List.append_assoc]
theorem ins_list2 (P Q F zs : List Value) (k k1 : Nat) (hP : P.length = k) (hF : F.length = 2) (hk : k + 2 = k1) (hz : zs.length = 2) :
    ((((P ++ Q) ++ zs).take k1 ++ (Q ++ ((P ++ Q) ++ zs).drop (k1 + Q.length))).take k ++ (F ++ (((P ++ Q) ++ zs).take k1 ++ (Q ++ ((P ++ Q) ++ zs).drop (k1 + Q.length))).drop (k + 2))) = P ++ (F ++ Q) := by
  have hl : ((P ++ Q) ++ zs).length = k1 + Q.length := by rw [List.length_append, List.length_append, hP, hz]; omega
  have h1 : ((P ++ Q) ++ zs).drop (k1 + Q.length) = [] := List.drop_of_length_le (by omega)
  have h2 : (((P ++ Q) ++ zs).take k1).length = k1 := by rw [List.length_take]; omega
  have h3 : (((P ++ Q) ++ zs).take k1).take k = P := by rw [List.take_take, Nat.min_eq_left (by omega), List.append_assoc, List.take_left' hP]
  rw [h1, List.append_nil, List.take_append_of_le_length (by omega), h3, hk, List.drop_left' h2]
/-- A row of pieces is another one, or as it was and longer. -/
def Moved (E E' : Option Addr) (w w' : World) : Prop := E' = E ∨ ∃ k, E' = some ⟨k, 0, none⟩ ∧ w.heap.size ≤ k
def InsPost (E : Option Addr) (n i : Nat) (R : List Rg) (f : Rg) (w : World) (e : Ending) (w' : World) : Prop :=
  ∃ E' c', e = .returned (.slice E' (n + 1) c') ∧ Own w' 0 2 E' (n + 1) c' (rgs (R.take i ++ ([f] ++ R.drop i))) ∧ Moved E E' w w' ∧ Tch (E.map (·.block)).toList w w'
theorem rgv_one (f : Rg) : ∀ v ∈ rgv f, v.oneCell' = true := by
  intro v hv
  simp [rgv] at hv
  rcases hv with rfl | rfl <;> rfl
set_option maxHeartbeats 1000000 in
theorem ins_end (E : Option Addr) (n c v : Nat) (R : List Rg) (f : Rg) (hn : R.length = n) (hn0 : n ≤ 100000) (w : World) (hO : Own w 0 2 E n c (rgs R)) (hv : Rd w (some ⟨v, 0, none⟩) (rgv f)) :
    Calls Tryd.prog 44 #[.slice E n c, .int .i64 (n : Int), .slice (some ⟨v, 0, none⟩) 1 1] w (InsPost E n n R f w) := by
  have HO := Lib.hid hO
  have HV := Lib.hid hv
  have HN := Lib.hid (And.intro hn hn0)
  have hnc : (n : Int) ≤ c := by have := hO.2.1; omega
  clear hO hv hn hn0
  have hcn : c = n ∨ ¬ c = n := by omega
  rcases hcn with hcn | hcn
  case' inl => (have hcn' := hcn.symm; clear hcn; subst hcn')
  all_goals
    go_enter Tryd.func44, Tryd.ntmps44
    go_wp2_with (at_builtin; refine Held.on ?_)
    refine held_append rfl (.tmp 23) (.tmp 24) 87 87 rfl 0 94 _ 2 32 Tryd.underlying87 (.inl Tryd.underlying87) rginfo rfl (by omega) rfl rfl HO.out (m := 1) (ys := rgv f) ⟨rfl, rgv_one f, .inl ⟨_, _, rfl, HV.out⟩⟩ (by have := HN.out.2; omega) (by have := HN.out.2; simp only [maxLen]; omega) (Nat.zero_le _) ?_
    intro E' c' w1 hO1 hg1 hor
    have e : rgs R ++ rgv f = rgs (R.take n ++ ([f] ++ R.drop n)) := by
      rw [List.take_of_length_le (by rw [HN.out.1]; exact Nat.le_refl _), List.drop_of_length_le (by rw [HN.out.1]; exact Nat.le_refl _), rgs_append, rgs_append, rgs_nil, List.append_nil, rgs_cons, rgs_nil, List.append_nil]
    rw [e] at hO1
    have HF : Hid (Own w1 0 2 E' (n + 1) c' (rgs (R.take n ++ ([f] ++ R.drop n))) ∧ Moved E E' w w1 ∧ Tch (E.map (·.block)).toList w w1) := Lib.hid ⟨hO1, by
      rcases hor with ⟨h, _⟩ | h
      · exact .inl h
      · exact .inr ⟨_, h, Nat.le_refl _⟩, Tch.grown hg1⟩
    clear hO1 hg1 hor e
    go_wp2_with fail
    first | go_ret2 | go_ret
    exact ⟨E', c', rfl, HF.out⟩
set_option maxHeartbeats 2000000 in
theorem ins_grow (a n i v : Nat) (R : List Rg) (f : Rg) (hn : R.length = n) (hn0 : n ≤ 100000) (hi : i < n) (w : World) (hO : Own w 0 2 (some ⟨a, 0, none⟩) n n (rgs R)) (hv : Rd w (some ⟨v, 0, none⟩) (rgv f)) :
    Calls Tryd.prog 44 #[.slice (some ⟨a, 0, none⟩) n n, .int .i64 (i : Int), .slice (some ⟨v, 0, none⟩) 1 1] w (InsPost (some ⟨a, 0, none⟩) n i R f w) := by
  have HO := Lib.hid hO
  have HV := Lib.hid hv
  have HN := Lib.hid (And.intro hn (And.intro hn0 hi))
  have h1 : (i : Int) ≤ n := by omega
  have h2 : ¬ n = i := by omega
  have h2' : ¬ i = n := by omega
  obtain ⟨m, hm⟩ : ∃ m, n + 1 = m := ⟨_, rfl⟩
  obtain ⟨d, hd⟩ : ∃ d, m - i = d := ⟨_, rfl⟩
  have e1 : (n : Int) + 1 = (m : Int) := by omega
  have e2 : (m : Int) - (i : Int) = (d : Int) := by omega
  have W1 : Hid (wrap64 (m : Int) = (m : Int)) := Lib.hid (w64_all m (by omega))
  have W2 : Hid (IntKind.i64.wrap (m : Int) = (m : Int)) := Lib.hid (i64_nat m (by omega))
  have W3 : Hid (wrap64 (d : Int) = (d : Int)) := Lib.hid (w64_all d (by omega))
  have W4 : Hid (IntKind.i64.wrap (d : Int) = (d : Int)) := Lib.hid (i64_nat d (by omega))
  have h3 : n < m := by omega
  have HM := Lib.hid (And.intro hm hd)
  clear hO hv hn hn0 hm hd hi
  have w1' := W1.out
  have w2' := W2.out
  have w3' := W3.out
  have w4' := W4.out
  go_enter Tryd.func44, Tryd.ntmps44
  go_wp2_with (at_builtin; refine Held.on ?_)
  refine held_append_zeros rfl (.tmp 34) (.tmp 39) 87 3 rfl 0 94 .i64 _ 2 32 Tryd.underlying87 Tryd.underlying3 rginfo rfl (by omega) (n := i) (c := n) (m := d) rfl rfl (HO.out.cutS i (by have := HN.out; omega)) (by have := HN.out; have := HM.out; omega) (by have := HN.out; have := HM.out; omega) (by have := HN.out; have := HM.out; omega) (by have := HN.out; have := HM.out; simp only [maxLen]; omega) (Nat.zero_le _) ?_
  intro c1 w1 ys hys hO1 hb1
  have him : i + d = m := by have := HN.out; have := HM.out; omega
  rw [him] at hO1 ⊢
  obtain ⟨q, hq⟩ : ∃ q, w.heap.size = q := ⟨_, rfl⟩
  rw [hq] at hO1 ⊢
  have hc1 : m ≤ c1 := hO1.2.1
  have HO1 := Lib.hid hO1
  have HB1 := Lib.hid hb1
  have HQ := Lib.hid (And.intro hq (And.intro hys him))
  have k1 : (i : Int) ≤ m := by have := HN.out; have := HM.out; omega
  have k2 : ¬ c1 = i := by have := HN.out; have := HM.out; omega
  obtain ⟨i1, hi1⟩ : ∃ i1, i + 1 = i1 := ⟨_, rfl⟩
  have k3 : ¬ c1 = i1 := by have := HN.out; have := HM.out; omega
  have k4 : (i1 : Int) ≤ m := by have := HN.out; have := HM.out; omega
  have e3 : (i : Int) + 1 = (i1 : Int) := by omega
  have W5 : Hid (wrap64 (i1 : Int) = (i1 : Int)) := Lib.hid (w64_all i1 (by have := HN.out; omega))
  have W6 : Hid (IntKind.i64.wrap (i1 : Int) = (i1 : Int)) := Lib.hid (i64_nat i1 (by have := HN.out; omega))
  have HI := Lib.hid (And.intro hi1 hc1)
  clear hO1 hb1 hys him hi1 hc1 w1' w2' w3' w4' e1 e2 hq W1 W2 W3 W4
  go_wp2_with (with_reducible refine at_copyR ?_)
  refine held_copyS rfl (.tmp 43) (.tmp 44) 87 87 rfl 0 94 2 Tryd.underlying87 rgsize (b := q) (o' := 0) (k := i * 2) (p := i * 2) (n := m) (n' := m - i) (m := 1) (Nat.zero_add _).symm rfl rfl HO1.out (ys := rgv f) (by have := HN.out; have := HM.out; rw [show Nat.min 1 (m - i) = 1 by simp only [Nat.min_def]; split <;> omega]; rfl) (by have := HN.out; have := HM.out; show i * 2 + 2 ≤ m * 2; omega) (HV.out.keep HB1.out) (rgv_one f) ?_
  intro w2 hO2 hg2
  have hb2 : Below w.heap.size w w2.drew := (below_of_grown HB1.out hg2 HB1.out.size (by rw [HQ.out.1]; exact Nat.le_refl _)).drew
  have HO2 : Hid (Own w2.drew 0 2 (some ⟨q, 0, none⟩) m c1 ((rgs (R.take i) ++ ys).take (i * 2) ++ (rgv f ++ (rgs (R.take i) ++ ys).drop (i * 2 + 2)))) := Lib.hid (by rw [← rgs_take]; exact hO2)
  have HR2 : Hid (Rd w2.drew (some ⟨a, i * 2, none⟩) (rgs (R.drop i))) := Lib.hid (by
    have h := HO.out.rd.keep hb2
    have e : rgs R = rgs (R.take i) ++ rgs (R.drop i) := by rw [← rgs_append, List.take_append_drop]
    rw [e] at h
    have h2 := Rd.dropS h (k := i * 2) (by rw [rgs_length, List.length_take]; have := HN.out; omega)
    rwa [Nat.zero_add] at h2)
  have HB2 : Hid (Below w.heap.size w w2.drew) := Lib.hid hb2
  clear hO2 hg2 hb2
  have w5' := W5.out
  have w6' := W6.out
  go_wp2_with fail
  refine wp_region_still_tail 8 (by kernel_rfl) (by kernel_rfl) ?_
  simp only [List.take_succ_cons, List.take_zero, List.drop_succ_cons, List.drop_zero]
  change wpStill _ _ (World.drew w2) (fun a => wpList _ _ _ _ a (World.drew w2)) _ _
  generalize World.drew w2 = w3 at *
  repeat still_step
  refine wpStill_nil ?_
  refine held_copyS rfl (.tmp 50) (.tmp 53) 87 87 rfl 0 94 2 Tryd.underlying87 rgsize (b := q) (o' := 0) (k := i1 * 2) (p := i1 * 2) (n := m) (n' := m - i1) (m := n - i) (Nat.zero_add _).symm rfl rfl HO2.out (ys := rgs (R.drop i)) (by have := HN.out; have := HM.out; have := HI.out; rw [show Nat.min (n - i) (m - i1) = n - i by simp only [Nat.min_def]; split <;> omega, rgs_length, List.length_drop, HN.out.1]) (by have := HN.out; have := HM.out; have := HI.out; rw [rgs_length, List.length_drop, HN.out.1]; omega) HR2.out (rgs_one _) ?_
  intro w4 hO4 hg4
  have hl1 : (rgs (R.take i)).length = i * 2 := by rw [rgs_length, List.length_take]; have := HN.out; omega
  have hz := ins_list (rgs (R.take i)) (rgs (R.drop i)) (rgv f) ys (i * 2) (i1 * 2) hl1 rfl (by have := HI.out; omega) (by
    rw [List.length_append, hl1, HQ.out.2.1, rgs_length, List.length_drop, HN.out.1]; have := HN.out; have := HM.out; have := HI.out; omega)
  rw [show rgs (R.take i) ++ (rgv f ++ rgs (R.drop i)) = rgs (R.take i ++ ([f] ++ R.drop i)) by rw [rgs_append, rgs_append]; rfl] at hz
  rw [hz] at hO4
  have HF : Hid (Own w4 0 2 (some ⟨q, 0, none⟩) (n + 1) c1 (rgs (R.take i ++ ([f] ++ R.drop i))) ∧ Below w.heap.size w w4) := Lib.hid ⟨by rw [HM.out.1]; exact hO4, below_of_grown HB2.out hg4 HB2.out.size (by rw [HQ.out.1]; exact Nat.le_refl _)⟩
  clear hO4 hg4 hl1 hz
  go_wp2_with fail
  first | go_ret2 | go_ret
  exact ⟨some ⟨q, 0, none⟩, c1, by rw [HM.out.1]; rfl, HF.out.1, .inr ⟨q, rfl, by rw [HQ.out.1]; exact Nat.le_refl _⟩, Tch.below HF.out.2 _⟩
theorem rgBlk {w : World} {v : Nat} {f : Rg} (h : Blk w v 94 #[.int .u32 (f.off : Nat), .slice f.A f.l.length f.c]) : Rd w (some ⟨v, 0, none⟩) (rgv f) := by
  refine .inr ⟨_, _, rfl, fun k x hk => ?_⟩
  match k with
  | 0 => simp [rgv] at hk; subst hk; exact (h.cell 0).trans rfl
  | 1 => simp [rgv] at hk; subst hk; exact (h.cell 1).trans rfl
  | k + 2 => simp [rgv] at hk
theorem overR (w : World) {v a q n1 c1 n2 c2 j : Nat} {t : TypeId} {cs : Array Value} {u : Value} (hv : Blk w v t cs) (hne : v ≠ a) (ha : w.cell? ⟨a, j, none⟩ = some u) :
    (callFunc 45 #[.slice (some ⟨v, 0, none⟩) n1 c1, .slice (some ⟨a, q, none⟩) n2 c2]).run Tryd.prog w = .ok (.value (.bool false)) w := by
  rw [@run_callFunc_extern Tryd.prog 45 _ (Extern.SlicesOverlaps.overlaps #[87, 87] #[4]) Tryd.func45 (by kernel_rfl) (by kernel_rfl) (by kernel_rfl) (by kernel_rfl),
    run_overlapsS w 87 4 94 2 Tryd.underlying87 rgsize hv hne ha]
  rfl
set_option maxHeartbeats 2000000 in
theorem ins_room (a n c i v : Nat) (R : List Rg) (f : Rg) (hn : R.length = n) (hn0 : n ≤ 100000) (hi : i < n) (hc : n < c) (hva : v ≠ a) (w : World) (hO : Own w 0 2 (some ⟨a, 0, none⟩) n c (rgs R)) (hv : Blk w v 94 #[.int .u32 (f.off : Nat), .slice f.A f.l.length f.c]) :
    Calls Tryd.prog 44 #[.slice (some ⟨a, 0, none⟩) n c, .int .i64 (i : Int), .slice (some ⟨v, 0, none⟩) 1 1] w (InsPost (some ⟨a, 0, none⟩) n i R f w) := by
  have HO := Lib.hid hO
  have HV := Lib.hid (And.intro hv hva)
  have HN := Lib.hid (And.intro hn (And.intro hn0 (And.intro hi hc)))
  have h1 : (i : Int) ≤ n := by omega
  have h2 : ¬ c = i := by omega
  have h2' : ¬ i = n := by omega
  obtain ⟨m, hm⟩ : ∃ m, n + 1 = m := ⟨_, rfl⟩
  obtain ⟨i1, hi1⟩ : ∃ i1, i + 1 = i1 := ⟨_, rfl⟩
  have e1 : (n : Int) + 1 = (m : Int) := by omega
  have e3 : (i : Int) + 1 = (i1 : Int) := by omega
  have W1 : Hid (wrap64 (m : Int) = (m : Int)) := Lib.hid (w64_all m (by omega))
  have W2 : Hid (IntKind.i64.wrap (m : Int) = (m : Int)) := Lib.hid (i64_nat m (by omega))
  have W5 : Hid (wrap64 (i1 : Int) = (i1 : Int)) := Lib.hid (w64_all i1 (by omega))
  have W6 : Hid (IntKind.i64.wrap (i1 : Int) = (i1 : Int)) := Lib.hid (i64_nat i1 (by omega))
  have h3 : ¬ c < m := by omega
  have h4 : (m : Int) ≤ c := by omega
  have k1 : (i : Int) ≤ m := by omega
  have k3 : ¬ c = i1 := by omega
  have k4 : (i1 : Int) ≤ m := by omega
  obtain ⟨u0, _, hu0, _⟩ := hO.cellS 0 (by omega)
  have hov : ∀ n2 c2, (callFunc 45 #[.slice (some ⟨v, 0, none⟩) 1 1, .slice (some ⟨a, i1 * 2, none⟩) n2 c2]).run Tryd.prog w = .ok (.value (.bool false)) w := fun n2 c2 => overR w hv hva hu0
  obtain ⟨zs, hz⟩ := hO.fullS m (by omega) (by omega)
  have HM := Lib.hid (And.intro hm (And.intro hi1 hz))
  have HR2 : Hid (Rd w.drew (some ⟨a, i * 2, none⟩) (rgs (R.drop i))) := Lib.hid (by
    have h := hO.rd.keep (below_drew w)
    have e : rgs R = rgs (R.take i) ++ rgs (R.drop i) := by rw [← rgs_append, List.take_append_drop]
    rw [e] at h
    have h2 := Rd.dropS h (k := i * 2) (by rw [rgs_length, List.length_take]; omega)
    rwa [Nat.zero_add] at h2)
  have HOD : Hid (Own w.drew 0 2 (some ⟨a, 0, none⟩) m c (rgs R ++ zs)) := Lib.hid (hz.keep (below_drew w))
  have HVD : Hid (Rd w.drew (some ⟨v, 0, none⟩) (rgv f)) := Lib.hid ((rgBlk hv).keep (below_drew w))
  have HTD : Hid (Tch [a] w w.drew) := Lib.hid ((Tch.drew w).more (by simp))
  clear hO hv hn hn0 hm hi hc hva hz hi1 hu0
  have w1' := W1.out
  have w2' := W2.out
  have w5' := W5.out
  have w6' := W6.out
  go_enter Tryd.func44, Tryd.ntmps44
  go_wp2_with (simp only [hov])
  clear hov
  refine wp_region_still_tail 8 (by kernel_rfl) (by kernel_rfl) ?_
  simp only [List.take_succ_cons, List.take_zero, List.drop_succ_cons, List.drop_zero]
  change wpStill _ _ (World.drew w) (fun a => wpList _ _ _ _ a (World.drew w)) _ _
  generalize World.drew w = w3 at *
  repeat still_step
  refine wpStill_nil ?_
  refine held_copyS rfl (.tmp 73) (.tmp 76) 87 87 rfl 0 94 2 Tryd.underlying87 rgsize (b := a) (o' := 0) (k := i1 * 2) (p := i1 * 2) (n := m) (n' := m - i1) (m := m - i) (Nat.zero_add _).symm rfl rfl HOD.out (ys := rgs (R.drop i)) (by have := HN.out; have := HM.out.1; have := HM.out.2.1; rw [show Nat.min (m - i) (m - i1) = n - i by simp only [Nat.min_def]; split <;> omega, rgs_length, List.length_drop, HN.out.1]) (by have := HN.out; have := HM.out.1; have := HM.out.2.1; rw [rgs_length, List.length_drop, HN.out.1]; omega) HR2.out (rgs_one _) ?_
  intro w4 hO4 hg4
  have hl1 : (rgs (R.take i)).length = i * 2 := by rw [rgs_length, List.length_take]; have := HN.out; omega
  have hsp : rgs R = rgs (R.take i) ++ rgs (R.drop i) := by rw [← rgs_append, List.take_append_drop]
  have hlz : zs.length = 2 := by
    have h := HM.out.2.2.1
    rw [List.length_append, rgs_length, HN.out.1] at h
    have := HM.out.1; omega
  have hz := ins_list2 (rgs (R.take i)) (rgs (R.drop i)) (rgv f) zs (i * 2) (i1 * 2) hl1 rfl (by have := HM.out.2.1; omega) hlz
  rw [← hsp, show rgs (R.take i) ++ (rgv f ++ rgs (R.drop i)) = rgs (R.take i ++ ([f] ++ R.drop i)) by rw [rgs_append, rgs_append]; rfl] at hz
  have HZ := Lib.hid hz
  have HO4 := Lib.hid hO4
  have HT4 : Hid (Tch [a] w w4) := Lib.hid (HTD.out.trans (Tch.grown hg4))
  have HV4 : Hid (Rd w4 (some ⟨v, 0, none⟩) (rgv f)) := Lib.hid (HVD.out.tch (Tch.grown hg4) (by have := HV.out.2; simpa using this))
  clear hO4 hg4 hl1 hsp hlz hz w1' w2' w5' w6' HTD HVD HOD HR2 e1 e3
  go_wp2_with (with_reducible refine at_copyR ?_)
  refine held_copyS rfl (.tmp 80) (.tmp 81) 87 87 rfl 0 94 2 Tryd.underlying87 rgsize (b := a) (o' := 0) (k := i * 2) (p := i * 2) (n := m) (n' := m - i) (m := 1) (Nat.zero_add _).symm rfl rfl HO4.out (ys := rgv f) (by have := HN.out; have := HM.out.1; rw [show Nat.min 1 (m - i) = 1 by simp only [Nat.min_def]; split <;> omega]; rfl) (by have := HN.out; have := HM.out.1; show i * 2 + 2 ≤ m * 2; omega) HV4.out (rgv_one f) ?_
  intro w5 hO5 hg5
  rw [show i * 2 + (rgv f).length = i * 2 + 2 from rfl, HZ.out] at hO5
  have HF : Hid (Own w5 0 2 (some ⟨a, 0, none⟩) (n + 1) c (rgs (R.take i ++ ([f] ++ R.drop i))) ∧ Tch [a] w w5) := Lib.hid ⟨by rw [HM.out.1]; exact hO5, HT4.out.trans (Tch.grown hg5)⟩
  clear hO5 hg5
  go_wp2_with fail
  first | go_ret2 | go_ret
  exact ⟨some ⟨a, 0, none⟩, c, by rw [HM.out.1]; rfl, HF.out.1, .inl rfl, HF.out.2⟩
theorem ins_any (E : Option Addr) (n c i v : Nat) (R : List Rg) (f : Rg) (hn : R.length = n) (hn0 : n ≤ 100000) (hi : i ≤ n) (w : World) (hE : Hi 0 E) (hva : E.map (·.block) ≠ some v) (hO : Own w 0 2 E n c (rgs R)) (hv : Blk w v 94 #[.int .u32 (f.off : Nat), .slice f.A f.l.length f.c]) :
    Calls Tryd.prog 44 #[.slice E n c, .int .i64 (i : Int), .slice (some ⟨v, 0, none⟩) 1 1] w (InsPost E n i R f w) := by
  rcases Nat.lt_or_ge i n with h | h
  · obtain ⟨r, hr⟩ : ∃ r, R[i]? = some r := ⟨_, List.getElem?_eq_getElem (by omega)⟩
    obtain ⟨a, rfl⟩ := rgAddr hE hO.rd hr
    have hnc := hO.2.1
    by_cases hc : c = n
    · subst hc
      exact ins_grow a c i v R f hn hn0 h w hO (rgBlk hv)
    · exact ins_room a n c i v R f hn hn0 h (by omega) (by simp at hva; omega) w hO hv
  · obtain rfl : i = n := by omega
    exact ins_end E i c v R f hn hn0 w hO (rgBlk hv)
end Go.Proofs.YtadblfnggmaadaaDoor
