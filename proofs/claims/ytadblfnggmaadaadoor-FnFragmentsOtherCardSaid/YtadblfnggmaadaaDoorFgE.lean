/- What a push leaves in memory, step by step. -/
import Derived.Test.YtadblfnggmaadaaDoorFgC
namespace Go.Proofs.YtadblfnggmaadaaDoor
open Go.RowKit Go.Cv
set_option maxRecDepth 100000
set_option linter.unusedVariables false
theorem Rd.from_ {w : World} {b o : Nat} {l : List UInt8} (h : Rd w (some ⟨b, o, none⟩) (vs l)) (k : Nat) : Rd w (some ⟨b, o + k, none⟩) (vs (l.drop k)) := by
  have h1 := Rd.part h k (l.drop k).length
  rwa [List.take_length] at h1
def PushPost (body : List UInt8) (kd ep a z : Nat) (x : Option (List (Nat × Nat))) (F : List Nat) (f b : Nat) (w w' : World) : Prop :=
  ∃ F', BufM w' F' f body kd ep (some (x.getD [] ++ [(a, z)])) ∧ Tch F w w' ∧ ∀ k ∈ F', k ∈ F ∨ k = b ∨ w.heap.size ≤ k
/-- A message ahead of its new piece: one that stands, or one that is new. -/
def MidP (w : World) (F : List Nat) (f m sz cn : Nat) (body : List UInt8) (kd ep : Nat) (ps : List (Nat × Nat)) (g : Nat) (ok : Bool) (wx : World) : Prop :=
  Below w.heap.size w wx ∧ f ≠ m ∧ Blk wx f 105 (fbRow m 0 (sz : Nat) (cn : Nat)) ∧ ∃ E D n c cov R st, MsgM wx body kd ep ps g E D n c cov R st ∧ sz = bytesOf R ∧ cn = n ∧ f ∉ foot g E ++ D ∧ m ∉ foot g E ++ D ∧
    (ok = false → Cache wx m 0 none ∧ F = [f, m] ∧ E = none ∧ D = [] ∧ w.heap.size ≤ g) ∧ (ok = true → Cache wx m 1 (some g) ∧ F = f :: m :: (foot g E ++ D))
theorem MidP.keep {w wx wy : World} {F : List Nat} {f m sz cn : Nat} {body : List UInt8} {kd ep : Nat} {ps : List (Nat × Nat)} {g : Nat} {ok : Bool} (h : MidP w F f m sz cn body kd ep ps g ok wx) (hb : Below wx.heap.size wx wy) : MidP w F f m sz cn body kd ep ps g ok wy := by
  obtain ⟨h1, h2, h3, E, D, n, c, cov, R, st, h4, h5, h6, h7, h8, h9, h10⟩ := h
  have ht := Tch.below hb []
  exact ⟨below_two h1 hb, h2, h3.keep hb, E, D, n, c, cov, R, st, h4.tch ht (by simp), h5, h6, h7, h8, fun h => ⟨(h9 h).1.tch ht (by simp), (h9 h).2⟩, fun h => ⟨(h10 h).1.tch ht (by simp), (h10 h).2⟩⟩
theorem rest_set (kd L ep ln n c cov : Nat) (E : Option Addr) : (((((((frRow E n c cov (restRow kd L ep none)).setIfInBounds 4 (.int .u8 (kd : Nat))).setIfInBounds 5 (.int .u32 (L : Nat))).setIfInBounds 6 (.int .u16 0)).setIfInBounds 7 (.int .u32 0)).setIfInBounds 8 (.int .u32 (ln : Nat))).setIfInBounds 9 (.int .u16 (ep : Nat))).setIfInBounds 10 (.bool true) = frRow E n c cov (restRow kd L ep (some ln)) := by
  apply Array.ext'
  simp [frRow, restRow]
theorem fb_set (m : Nat) (s t s' t' : Int) : ((fbRow m 0 s t).setIfInBounds 3 (.int .i64 t')).setIfInBounds 2 (.int .i64 s') = fbRow m 0 s' t' := by
  apply Array.ext'
  simp [fbRow]
def lenOf (v : Value) : Nat := match v with
  | .slice _ n _ => n
  | _ => 0
/-- Behind the adding of a piece. -/
structure Aft (w w' : World) (F : List Nat) (f m : Nat) (body : List UInt8) (kd ep : Nat) (ps : List (Nat × Nat)) (b g nc : Nat) (x : Option Nat) (E : Option Addr) (D : List Nat) (n c cov : Nat) (R : List Rg) (st : Option Nat) (sz ct : Int) : Prop where
  tch : Tch F w w'
  fm : f ≠ m
  fF : f ∈ F
  mF : m ∈ F
  gF : g ∈ F ∨ w.heap.size ≤ g
  fb : Blk w' f 105 (fbRow m 0 sz ct)
  ca : Cache w' m nc x
  fn : f ∉ foot g E ++ D
  mn : m ∉ foot g E ++ D
  inF : ∀ k ∈ foot g E ++ D, k ∈ F ∨ k = b ∨ w.heap.size ≤ k
  msg : MsgN w' body kd ep ps g E D n c cov R st
theorem Aft.put {w w' w'' : World} {F : List Nat} {f m : Nat} {body : List UInt8} {kd ep : Nat} {ps : List (Nat × Nat)} {b g nc nc' : Nat} {x y : Option Nat} {E : Option Addr} {D : List Nat} {n c cov : Nat} {R : List Rg} {st : Option Nat} {sz ct : Int}
    (h : Aft w w' F f m body kd ep ps b g nc x E D n c cov R st sz ct) (ht : Tch [m] w' w'') (hc : Cache w'' m nc' y) : Aft w w'' F f m body kd ep ps b g nc' y E D n c cov R st sz ct :=
  ⟨h.tch.then ht (fun k hk => by simp at hk; subst hk; exact .inl h.mF), h.fm, h.fF, h.mF, h.gF, h.fb.tch ht (by simpa using h.fm), hc, h.fn, h.mn, h.inF, h.msg.tch ht (fun k hk => by
    simp at hk; subst hk
    exact ⟨fun hm => h.mn (List.mem_append.2 (.inl hm)), fun hm => h.mn (List.mem_append.2 (.inr hm))⟩)⟩
theorem Aft.fbs {w w' w'' : World} {F : List Nat} {f m : Nat} {body : List UInt8} {kd ep : Nat} {ps : List (Nat × Nat)} {b g nc : Nat} {x : Option Nat} {E : Option Addr} {D : List Nat} {n c cov : Nat} {R : List Rg} {st : Option Nat} {sz ct sz' ct' : Int}
    (h : Aft w w' F f m body kd ep ps b g nc x E D n c cov R st sz ct) (ht : Tch [f] w' w'') (hf : Blk w'' f 105 (fbRow m 0 sz' ct')) : Aft w w'' F f m body kd ep ps b g nc x E D n c cov R st sz' ct' :=
  ⟨h.tch.then ht (fun k hk => by simp at hk; subst hk; exact .inl h.fF), h.fm, h.fF, h.mF, h.gF, hf, h.ca.tch ht (by simpa using fun e => h.fm e.symm), h.fn, h.mn, h.inF, h.msg.tch ht (fun k hk => by
    simp at hk; subst hk
    exact ⟨fun hm => h.fn (List.mem_append.2 (.inl hm)), fun hm => h.fn (List.mem_append.2 (.inr hm))⟩)⟩
theorem Aft.gs {w w' w'' : World} {F : List Nat} {f m : Nat} {body : List UInt8} {kd ep : Nat} {ps : List (Nat × Nat)} {b g nc : Nat} {x : Option Nat} {E : Option Addr} {D : List Nat} {n c cov : Nat} {R : List Rg} {st st' : Option Nat} {sz ct : Int}
    (h : Aft w w' F f m body kd ep ps b g nc x E D n c cov R st sz ct) (ht : Tch [g] w' w'') (hk : Blk w'' g 92 (frRow E n c cov (restRow kd body.length ep st'))) : Aft w w'' F f m body kd ep ps b g nc x E D n c cov R st' sz ct := by
  have hgf : g ∈ foot g E := by simp [foot]
  have hEg : E = none ∨ ∃ a, E = some ⟨a, 0, none⟩ ∧ a ∉ [g] := by
    rcases h.msg.hiE with h1 | ⟨a, h1, _⟩
    · exact .inl h1
    · refine .inr ⟨a, h1, fun hm => ?_⟩
      simp at hm
      exact h.msg.neE (by rw [h1, hm]; rfl)
  refine ⟨h.tch.then ht (fun k hk => by simp at hk; subst hk; exact h.gF), h.fm, h.fF, h.mF, h.gF, h.fb.tch ht (fun hm => h.fn (by simp at hm; simp [hm, foot])), h.ca.tch ht (fun hm => h.mn (by simp at hm; simp [hm, foot])), h.fn, h.mn, h.inF,
    ⟨hk, h.msg.row.tch ht hEg, h.msg.len, h.msg.hiE, h.msg.loE.mono ht.size, h.msg.neE, h.msg.kept, h.msg.cv, h.msg.few, fun r hr => ?_, fun d hd => ⟨Nat.lt_of_lt_of_le (h.msg.apt d hd).1 ht.size, (h.msg.apt d hd).2⟩⟩⟩
  rcases h.msg.dat r hr with h1 | ⟨b, o, h1, h2, h4, h3⟩
  · exact .inl h1
  · exact .inr ⟨b, o, h1, h2, h4, h3.tch ht (fun hm => by simp at hm; subst hm; exact (h.msg.apt b h2).2 hgf)⟩
theorem Aft.done {w w' : World} {F : List Nat} {f m : Nat} {body : List UInt8} {kd ep a z : Nat} {y : Option (List (Nat × Nat))} {b g : Nat} {E : Option Addr} {D : List Nat} {n c cov : Nat} {R : List Rg} {st : Option Nat}
    (h : Aft w w' F f m body kd ep (y.getD [] ++ [(a, z)]) b g 1 (some g) E D n c cov R st (bytesOf R : Nat) (n : Nat)) (hb : st.isSome = true ↔ ∃ p ∈ y.getD [] ++ [(a, z)], p.1 = 0) : PushPost body kd ep a z y F f b w w' := by
  refine ⟨f :: m :: (foot g E ++ D), ⟨m, g, E, D, n, c, cov, R, st, rfl, h.fm, h.fn, h.mn, h.fb, h.ca, ⟨h.msg, hb⟩⟩, h.tch, fun k hk => ?_⟩
  rcases List.mem_cons.1 hk with rfl | hk
  · exact .inl h.fF
  rcases List.mem_cons.1 hk with rfl | hk
  · exact .inl h.mF
  exact h.inF k hk
theorem blk_ne {w : World} {p q : Nat} {t u : TypeId} {cs ds : Array Value} (h1 : Blk w p t cs) (h2 : Blk w q u ds) (ht : t ≠ u) : p ≠ q := by
  rintro rfl
  unfold Blk at h1 h2
  rw [h1] at h2
  simp at h2
  exact ht h2.2
def nOf (ok : Bool) : Nat := if ok = true then 1 else 0
def gOf (ok : Bool) (g : Nat) : Option Nat := if ok = true then some g else none
/-- The adding of a piece to a message that stands or is new. -/
theorem addMid {w W : World} {F : List Nat} {f m sz cn : Nat} {body : List UInt8} {kd ep a z ln b : Nat} {x : Option (List (Nat × Nat))} {l : List UInt8} {g : Nat} {ok : Bool} (h : MidP w F f m sz cn body kd ep (x.getD []) g ok W) (hL : body.length ≤ 3000) (haz : a + ln = z) (hzL : z ≤ body.length) (hl : (body.take z).drop a = l)
    (A0 : Option Addr) (c0 : Nat) (hA0 : ln ≠ 0 → A0 = some ⟨b, 25, none⟩) (hc0 : ln ≤ c0) (hrd : Rd W (some ⟨b, 25, none⟩) (vs l)) (hbF : b ∉ F) (hbl : b < w.heap.size) (hFl : ∀ k ∈ F, k < w.heap.size) (hx : (x.getD []).length ≤ 100) (ev : Value) (hev : W.cell? ⟨0, 0, none⟩ = some ev) (av : Int) (hav : 1 ≤ av)
    {p9 p7 : Nat} {c9 c7 : Array Value} (h9 : Blk W p9 90 c9) (h7 : Blk W p7 110 c7) (h9s : w.heap.size ≤ p9) (h7s : w.heap.size ≤ p7) :
    Calls Tryd.prog 28 #[.pointer (some ⟨g, 0, none⟩), .int .u32 (a : Nat), .slice A0 ln c0, .int .i64 av] W fun e w' =>
      ∃ (dn db : Int), e = .returned (.tuple #[.int .i64 dn, .int .i64 db, .nilIface]) ∧ Blk w' p9 90 c9 ∧ Blk w' p7 110 c7 ∧
        ∃ (E : Option Addr) (D : List Nat) (n c cov : Nat) (R : List Rg) (st : Option Nat), Aft w w' F f m body kd ep (x.getD [] ++ [(a, z)]) b g (nOf ok) (gOf ok g) E D n c cov R st (sz : Nat) (cn : Nat) ∧ (cn : Int) + dn = (n : Int) ∧ (sz : Int) + db = (bytesOf R : Int) ∧ (st.isSome = true ↔ ∃ p ∈ x.getD [], p.1 = 0) ∧ n ≤ 101 ∧ bytesOf R ≤ 303000 := by
  obtain ⟨hb, hfm, hfb, E, D, n, c, cov, R, st, hM, hsz, hcn2, hfn, hmn, hno, hyes⟩ := h
  have hN := hM.toMsgN
  have hll : l.length = ln := by rw [← hl, List.length_drop, List.length_take]; omega
  obtain ⟨hs1, hs2, hs3⟩ := msg_sorted hN.kept hL
  obtain ⟨fA, fc, hf1, hf2, hfA⟩ : ∃ (fA : Option Addr) (fc : Nat), (ln = 0 → fA = none ∧ fc = 0) ∧ (ln ≠ 0 → fA = A0 ∧ fc = c0) ∧ ((l = [] ∧ fA = none ∧ fc = 0) ∨ fA = some ⟨b, 25, none⟩ ∧ l.length ≤ fc ∧ Rd W (some ⟨b, 25, none⟩) (vs l)) := by
    by_cases h0 : ln = 0
    · exact ⟨none, 0, fun _ => ⟨rfl, rfl⟩, fun h => absurd h0 h, .inl ⟨List.eq_nil_of_length_eq_zero (by omega), rfl, rfl⟩⟩
    · exact ⟨A0, c0, fun h => absurd h h0, fun _ => ⟨rfl, rfl⟩, .inr ⟨hA0 h0, by omega, hrd⟩⟩
  have hgF : g ∈ F ∨ w.heap.size ≤ g := by
    cases ok with
    | false => exact .inr (hno rfl).2.2.2.2
    | true => rw [(hyes rfl).2]; exact .inl (by simp [foot])
  have hfF : f ∈ F ∧ m ∈ F := by
    cases ok with
    | false => rw [(hno rfl).2.1]; simp
    | true => rw [(hyes rfl).2]; simp
  have hfoot : ∀ k ∈ foot g E ++ D, k ∈ F ∨ w.heap.size ≤ k := by
    intro k hk
    cases ok with
    | false =>
      obtain ⟨_, _, h3, h4, h5⟩ := hno rfl
      subst h3 h4
      simp [foot] at hk
      subst hk
      exact .inr h5
    | true => rw [(hyes rfl).2]; exact .inl (List.mem_cons_of_mem _ (List.mem_cons_of_mem _ hk))
  have hbf : b ∉ foot g E := fun hm => by
    rcases hfoot b (List.mem_append.2 (.inl hm)) with h1 | h1
    · exact hbF h1
    · omega
  have hp9 : ∀ p, w.heap.size ≤ p → p ≠ g → p ∉ foot g E := fun p hp hpg hm => by
    cases ok with
    | false =>
      rw [(hno rfl).2.2.1] at hm
      simp [foot] at hm
      exact hpg hm
    | true =>
      have h2 : p ∈ F := by rw [(hyes rfl).2]; exact List.mem_cons_of_mem _ (List.mem_cons_of_mem _ (List.mem_append.2 (.inl hm)))
      have := hFl p h2
      omega
  have n9 := hp9 p9 h9s (blk_ne h9 hM.fr (by decide))
  have n7 := hp9 p7 h7s (blk_ne h7 hM.fr (by decide))
  refine (add_any g n c cov E A0 ln c0 ⟨a, fA, fc, l⟩ R (restRow kd body.length ep st) av hN.len (by have := hN.len; have := hN.few; omega) hs1 hs2 (by unfold Rg.fin; simp only; omega) hll hf1 hf2 hs3 ev W hev hN.fr hN.hiE hN.neE hN.loE hN.row).mono ?_
  intro e w' hp
  rw [← hl] at hp hfA
  obtain ⟨dn, db, E', n', c', cov', R', rfl, h1, h2, h3, h4, h5⟩ := hN.added (a := a) (b := z) (bb := b) (o0 := 25) (by omega) hzL fA hfA (by have := hb.size; omega) hbf hav hp
  have hTF : Tch F w w' := (Tch.below hb F).then h3 (fun k hk => hfoot k (List.mem_append.2 (.inl hk)))
  have hin : ∀ k ∈ foot g E' ++ (b :: D), k ∈ F ∨ k = b ∨ w.heap.size ≤ k := by
    intro k hk
    rcases List.mem_append.1 hk with hk | hk
    · rcases h4 k hk with h6 | h6
      · exact (hfoot k (List.mem_append.2 (.inl h6))).imp id .inr
      · exact .inr (.inr (Nat.le_trans hb.size h6))
    · rcases List.mem_cons.1 hk with h6 | h6
      · exact .inr (.inl h6)
      · exact (hfoot k (List.mem_append.2 (.inr h6))).imp id .inr
  have hout : ∀ q, q ∈ F → q ∉ foot g E ++ D → q ∉ foot g E' ++ (b :: D) := by
    intro q hq hn hm
    rcases List.mem_append.1 hm with hm | hm
    · rcases h4 q hm with h6 | h6
      · exact hn (List.mem_append.2 (.inl h6))
      · have := hFl q hq
        have := hb.size
        omega
    · rcases List.mem_cons.1 hm with h6 | h6
      · subst h6; exact hbF hq
      · exact hn (List.mem_append.2 (.inr h6))
  have hca : Cache W m (nOf ok) (gOf ok g) := by
    cases ok with
    | false => exact (hno rfl).1
    | true => exact (hyes rfl).1
  have hby := bytes_few' h5.kept
  have hfew := h5.few
  simp only [List.length_append, List.length_cons, List.length_nil] at hfew
  have hps := hN.few
  have h101 : n' ≤ 101 := by
    have hc := h5.len
    omega
  have h303 : R'.length * body.length ≤ 101 * 3000 := Nat.mul_le_mul (by have := h5.len; omega) hL
  refine ⟨dn, db, rfl, h9.tch h3 n9, h7.tch h3 n7, E', b :: D, n', c', cov', R', st, ⟨hTF, hfm, hfF.1, hfF.2, hgF, hfb.tch h3 (fun hm => hfn (List.mem_append.2 (.inl hm))), hca.tch h3 (fun hm => hmn (List.mem_append.2 (.inl hm))), hout f hfF.1 hfn, hout m hfF.2 hmn, hin, h5⟩, by omega, by omega, hM.beg, h101, by omega⟩
end Go.Proofs.YtadblfnggmaadaaDoor
