/- What a buffer of fragments holds, and what lies in memory. -/
import Derived.Test.YtadblfnggmaadaaDoorFgA
import Derived.Test.YtadblfnggmaadaaDoorHeaded
namespace Go.Proofs.YtadblfnggmaadaaDoor
open Go.RowKit Go.Cv
set_option maxRecDepth 100000
set_option linter.unusedVariables false
/-! ### a message's pieces -/
def restRow (kd L ep : Nat) : Option Nat → List Value
  | none => [.int .u8 (kd : Nat), .int .u32 (L : Nat), .int .u8 0, .int .u32 0, .int .u16 0, .int .u32 0, .int .u32 0, .int .u16 0, .bool false]
  | some fl => [.int .u8 (kd : Nat), .int .u32 (L : Nat), .int .u8 (kd : Nat), .int .u32 (L : Nat), .int .u16 0, .int .u32 0, .int .u32 (fl : Nat), .int .u16 (ep : Nat), .bool true]
def CovP (ps : List (Nat × Nat)) (k : Nat) : Prop := ∃ p ∈ ps, p.1 ≤ k ∧ k < p.2
/-- The blocks of a message. -/
def foot (g : Nat) (E : Option Addr) : List Nat := g :: (E.map (·.block)).toList
/-- A message's pieces in memory. -/
structure MsgN (w : World) (body : List UInt8) (kd ep : Nat) (ps : List (Nat × Nat)) (g : Nat) (E : Option Addr) (D : List Nat) (n c cov : Nat) (R : List Rg) (st : Option Nat) : Prop where
  fr : Blk w g 92 (frRow E n c cov (restRow kd body.length ep st))
  row : Own w 0 2 E n c (rgs R)
  len : R.length = n
  hiE : Hi 0 E
  loE : Lo E w
  neE : E.map (·.block) ≠ some g
  kept : Kept body R cov
  cv : ∀ k, CovBy R k ↔ CovP ps k
  few : n ≤ ps.length
  dat : ∀ r ∈ R, (r.l = [] ∧ r.A = none ∧ r.c = 0) ∨ ∃ b o, r.A = some ⟨b, o, none⟩ ∧ b ∈ D ∧ r.l.length ≤ r.c ∧ Rd w (some ⟨b, o, none⟩) (vs r.l)
  apt : ∀ d ∈ D, d < w.heap.size ∧ d ∉ foot g E
/-- .. whose first piece's header is kept just where it came. -/
structure MsgM (w : World) (body : List UInt8) (kd ep : Nat) (ps : List (Nat × Nat)) (g : Nat) (E : Option Addr) (D : List Nat) (n c cov : Nat) (R : List Rg) (st : Option Nat) : Prop extends MsgN w body kd ep ps g E D n c cov R st where
  beg : st.isSome = true ↔ ∃ p ∈ ps, p.1 = 0
theorem MsgN.tch {w w' : World} {L : List Nat} {body : List UInt8} {kd ep : Nat} {ps : List (Nat × Nat)} {g : Nat} {E : Option Addr} {D : List Nat} {n c cov : Nat} {R : List Rg} {st : Option Nat} (h : MsgN w body kd ep ps g E D n c cov R st) (ht : Tch L w w') (hL : ∀ k ∈ L, k ∉ foot g E ∧ k ∉ D) : MsgN w' body kd ep ps g E D n c cov R st := by
  have hg : g ∉ L := fun hm => (hL g hm).1 (by simp [foot])
  refine ⟨h.fr.tch ht hg, h.row.tch ht ?_, h.len, h.hiE, h.loE.mono ht.size, h.neE, h.kept, h.cv, h.few, fun r hr => ?_, fun d hd => ⟨Nat.lt_of_lt_of_le (h.apt d hd).1 ht.size, (h.apt d hd).2⟩⟩
  · rcases h.hiE with h1 | ⟨a, h1, _⟩
    · exact .inl h1
    · exact .inr ⟨a, h1, fun hm => (hL a hm).1 (by simp [foot, h1])⟩
  · rcases h.dat r hr with h1 | ⟨b, o, h1, h2, h4, h3⟩
    · exact .inl h1
    · exact .inr ⟨b, o, h1, h2, h4, h3.tch ht (fun hm => (hL b hm).2 h2)⟩
theorem MsgM.tch {w w' : World} {L : List Nat} {body : List UInt8} {kd ep : Nat} {ps : List (Nat × Nat)} {g : Nat} {E : Option Addr} {D : List Nat} {n c cov : Nat} {R : List Rg} {st : Option Nat} (h : MsgM w body kd ep ps g E D n c cov R st) (ht : Tch L w w') (hL : ∀ k ∈ L, k ∉ foot g E ∧ k ∉ D) : MsgM w' body kd ep ps g E D n c cov R st := ⟨h.toMsgN.tch ht hL, h.beg⟩
/-- A buffer that waits for message 0: F are its blocks. -/
def BufM (w : World) (F : List Nat) (f : Nat) (body : List UInt8) (kd ep : Nat) : Option (List (Nat × Nat)) → Prop
  | none => ∃ m, F = [f, m] ∧ f ≠ m ∧ Blk w f 105 (fbRow m 0 0 0) ∧ Cache w m 0 none
  | some ps => ∃ m g E D n c cov R st, F = f :: m :: (foot g E ++ D) ∧ f ≠ m ∧ f ∉ foot g E ++ D ∧ m ∉ foot g E ++ D ∧ Blk w f 105 (fbRow m 0 (bytesOf R : Nat) (n : Nat)) ∧ Cache w m 1 (some g) ∧ MsgM w body kd ep ps g E D n c cov R st
/-- A buffer whose message 0 came out. -/
def BufE (w : World) (F : List Nat) (f : Nat) : Prop := ∃ m nc, F = [f, m] ∧ f ≠ m ∧ (∃ sz ct, Blk w f 105 (fbRow m 1 sz ct)) ∧ Cache w m nc none
theorem BufM.tch {w w' : World} {F L : List Nat} {f : Nat} {body : List UInt8} {kd ep : Nat} {x : Option (List (Nat × Nat))} (h : BufM w F f body kd ep x) (ht : Tch L w w') (hL : ∀ k ∈ L, k ∉ F) : BufM w' F f body kd ep x := by
  cases x with
  | none =>
    obtain ⟨m, rfl, h1, h2, h3⟩ := h
    exact ⟨m, rfl, h1, h2.tch ht (fun hm => hL f hm (by simp)), h3.tch ht (fun hm => hL m hm (by simp))⟩
  | some ps =>
    obtain ⟨m, g, E, D, n, c, cov, R, st, rfl, h1, h2, h3, h4, h5, h6⟩ := h
    exact ⟨m, g, E, D, n, c, cov, R, st, rfl, h1, h2, h3, h4.tch ht (fun hm => hL f hm (by simp)), h5.tch ht (fun hm => hL m hm (by simp)), h6.tch ht (fun k hk => ⟨fun hm => hL k hk (by simp [hm]), fun hm => hL k hk (by simp [hm])⟩)⟩
theorem BufE.tch {w w' : World} {F L : List Nat} {f : Nat} (h : BufE w F f) (ht : Tch L w w') (hL : ∀ k ∈ L, k ∉ F) : BufE w' F f := by
  obtain ⟨m, nc, rfl, h1, ⟨sz, ct, h2⟩, h3⟩ := h
  exact ⟨m, nc, rfl, h1, ⟨sz, ct, h2.tch ht (fun hm => hL f hm (by simp))⟩, h3.tch ht (fun hm => hL m hm (by simp))⟩
theorem MsgM.lt {w : World} {body : List UInt8} {kd ep : Nat} {ps : List (Nat × Nat)} {g : Nat} {E : Option Addr} {D : List Nat} {n c cov : Nat} {R : List Rg} {st : Option Nat} (h : MsgM w body kd ep ps g E D n c cov R st) : ∀ k ∈ foot g E ++ D, k < w.heap.size := by
  intro k hk
  rcases List.mem_append.1 hk with hk | hk
  · rcases List.mem_cons.1 hk with rfl | hk
    · exact h.fr.lt
    · exact h.loE k (by simpa using hk)
  · exact (h.apt k hk).1
theorem BufM.lt {w : World} {F : List Nat} {f : Nat} {body : List UInt8} {kd ep : Nat} {x : Option (List (Nat × Nat))} (h : BufM w F f body kd ep x) : ∀ k ∈ F, k < w.heap.size := by
  cases x with
  | none =>
    obtain ⟨m, rfl, h1, h2, h3⟩ := h
    intro k hk
    rcases List.mem_cons.1 hk with rfl | hk
    · exact h2.lt
    · simp at hk; subst hk; exact h3.lt
  | some ps =>
    obtain ⟨m, g, E, D, n, c, cov, R, st, rfl, h1, h2, h3, h4, h5, h6⟩ := h
    intro k hk
    rcases List.mem_cons.1 hk with rfl | hk
    · exact h4.lt
    rcases List.mem_cons.1 hk with rfl | hk
    · exact h5.lt
    exact h6.lt k hk
/-! ### a piece is added -/
theorem msg_sorted {body : List UInt8} {R : List Rg} {cov : Nat} (h : Kept body R cov) (hL : body.length ≤ 3000) : Small R ∧ Sorted R ∧ cov ≤ 1000000 := ⟨fun r hr => by have := h.fin r hr; omega, h.asc.sorted, by have := h.pre.1; omega⟩
/-- A message without a piece. -/
theorem MsgM.fresh {w : World} {body : List UInt8} {kd ep g : Nat} (hb : Blk w g 92 (frRow none 0 0 0 (restRow kd body.length ep none))) : MsgM w body kd ep [] g none [] 0 0 0 [] none :=
  ⟨⟨hb, Own.nil _ _ _, rfl, .inl rfl, Lo.none _, by simp, Kept.start body, fun k => ⟨fun ⟨r, h, _⟩ => by simp at h, fun ⟨r, h, _⟩ => by simp at h⟩, Nat.le_refl _, fun r h => by simp at h, fun d h => by simp at h⟩, by simp⟩
theorem addR_mem {R : List Rg} {f r : Rg} {i : Nat} (h : r ∈ addR R f i) : r ∈ R ∨ r = f := by
  unfold addR at h
  rcases List.mem_append.1 h with h | h
  · exact .inl (List.mem_of_mem_take h)
  rcases List.mem_append.1 h with h | h
  · simp at h; exact .inr h
  · exact .inl (List.mem_of_mem_drop h)
/-- What add tells of a message, and what it leaves. -/
theorem MsgN.added {w w' : World} {e : Ending} {ev : Value} {av : Int} {body : List UInt8} {kd ep a b bb o0 : Nat} {cc : Nat} {ps : List (Nat × Nat)} {g : Nat} {E : Option Addr} {D : List Nat} {n c cov : Nat} {R : List Rg} {st : Option Nat} (h : MsgN w body kd ep ps g E D n c cov R st)
    (hab : a ≤ b) (hb : b ≤ body.length) (A0 : Option Addr) (hA : ((body.take b).drop a = [] ∧ A0 = none ∧ cc = 0) ∨ A0 = some ⟨bb, o0, none⟩ ∧ ((body.take b).drop a).length ≤ cc ∧ Rd w (some ⟨bb, o0, none⟩) (vs ((body.take b).drop a))) (hbb : bb < w.heap.size) (hbf : bb ∉ foot g E) (hav : 1 ≤ av)
    (hp : AddPost g cov E R (restRow kd body.length ep st) ⟨a, A0, cc, (body.take b).drop a⟩ av ev w e w') :
    ∃ (dn db : Int) (E' : Option Addr) (n' c' cov' : Nat) (R' : List Rg), e = .returned (.tuple #[.int .i64 dn, .int .i64 db, .nilIface]) ∧ (n : Int) + dn = (n' : Int) ∧ (bytesOf R : Int) + db = (bytesOf R' : Int) ∧ Tch (foot g E) w w' ∧ (∀ k ∈ foot g E', k ∈ foot g E ∨ w.heap.size ≤ k) ∧
      MsgN w' body kd ep (ps ++ [(a, b)]) g E' (bb :: D) n' c' cov' R' st := by
  obtain ⟨l, hl⟩ : ∃ l, (body.take b).drop a = l := ⟨_, rfl⟩
  rw [hl] at hA hp
  have hll : l.length = b - a := by rw [← hl, List.length_drop, List.length_take]; omega
  have hfin : (⟨a, A0, cc, l⟩ : Rg).fin = b := by unfold Rg.fin; simp only; omega
  have hx : l = (body.take (a + l.length)).drop a := by rw [hll, show a + (b - a) = b by omega, hl]
  have hcv2 : ∀ k, CovP (ps ++ [(a, b)]) k ↔ (CovBy R k ∨ (a ≤ k ∧ k < b)) := by
    intro k
    rw [h.cv k]
    constructor
    · rintro ⟨p, hp, h1⟩
      rcases List.mem_append.1 hp with hp | hp
      · exact .inl ⟨p, hp, h1⟩
      · simp at hp; subst hp; exact .inr h1
    · rintro (⟨p, hp, h1⟩ | h1)
      · exact ⟨p, List.mem_append.2 (.inl hp), h1⟩
      · exact ⟨(a, b), by simp, h1⟩
  obtain ⟨i, hpl, hp⟩ := hp
  rcases hp with ⟨h1, rfl, h3⟩ | ⟨h1, h2, rfl, h4⟩ | ⟨h1, h2, rfl, E', n', c', h4, h5, h6, h7, h8, h9, h10⟩
  · have ht := Tch.below h3 []
    have hm := h.tch ht (by simp)
    refine ⟨0, 0, E, n, c, cov, R, rfl, by omega, by omega, Tch.below h3 _, fun k hk => .inl hk, hm.fr, hm.row, hm.len, hm.hiE, hm.loE, hm.neE, hm.kept, fun k => ?_, by have := hm.few; simp; omega, fun r hr => ?_, fun d hd => ?_⟩
    · rw [hcv2 k]
      refine ⟨.inl, fun hk => hk.elim id fun hk => ?_⟩
      exact cov_there hpl h1 k hk.1 (by rw [hfin]; exact hk.2)
    · exact (hm.dat r hr).imp id fun ⟨b, o, k1, k2, k4, k3⟩ => ⟨b, o, k1, by simp [k2], k4, k3⟩
    · rcases List.mem_cons.1 hd with rfl | hd
      · exact ⟨Nat.lt_of_lt_of_le hbb h3.size, hbf⟩
      · exact hm.apt d hd
  · omega
  · have ha : covA R i ⟨a, A0, cc, l⟩ = false := by revert h1; cases covA R i ⟨a, A0, cc, l⟩ <;> simp
    have hc : covC R i ⟨a, A0, cc, l⟩ = false := by revert h1; cases covC R i ⟨a, A0, cc, l⟩ <;> simp
    have hn := addR_count hpl (f := ⟨a, A0, cc, l⟩)
    have hft : ∀ k ∈ foot g E', k ∈ foot g E ∨ w.heap.size ≤ k := by
      intro k hk
      rcases List.mem_cons.1 hk with rfl | hk
      · exact .inl (by simp [foot])
      · rcases h7 with rfl | ⟨q, rfl, hq⟩
        · exact .inl (by simp [foot]; exact .inr (by simpa using hk))
        · simp at hk; subst hk; exact .inr hq
    have hnn := h.len
    have hd2 : ∀ d ∈ bb :: D, d < w.heap.size ∧ d ∉ foot g E := by
      intro d hd
      rcases List.mem_cons.1 hd with rfl | hd
      · exact ⟨hbb, hbf⟩
      · exact h.apt d hd
    refine ⟨_, _, E', n', c', _, _, rfl, by rw [← h4]; omega, by omega, h10, hft, h5, h6, h4, h8, own_loS h6 (by rw [← h4]; simp [addR]; omega) (by omega), h9, addR_kept h.kept hpl (by omega) hx ha hc, fun k => ?_, by have := h.few; rw [← h4]; simp; omega, fun r hr => ?_, fun d hd => ⟨Nat.lt_of_lt_of_le (hd2 d hd).1 h10.size, fun hm => ?_⟩⟩
    · rw [hcv2 k, addR_cov hpl k, hfin]
    · rcases addR_mem hr with hr | rfl
      · rcases h.dat r hr with k1 | ⟨q, o, k1, k2, k4, k3⟩
        · exact .inl k1
        · exact .inr ⟨q, o, k1, by simp [k2], k4, k3.tch h10 (fun hm => (h.apt q k2).2 hm)⟩
      · rcases hA with hA | ⟨hA1, hA3, hA2⟩
        · exact .inl hA
        · exact .inr ⟨bb, o0, hA1, by simp, hA3, hA2.tch h10 hbf⟩
    · rcases hft d hm with h1 | h1
      · exact (hd2 d hd).2 h1
      · have := (hd2 d hd).1; omega
theorem bytes_few' {body : List UInt8} {R : List Rg} {cov : Nat} (h : Kept body R cov) : bytesOf R ≤ R.length * body.length := by
  have h1 : ∀ r ∈ R, r.l.length ≤ body.length := fun r hr => by have h2 := h.fin r hr; unfold Rg.fin at h2; omega
  clear h
  induction R with
  | nil => simp [bytesOf]
  | cons r R ih =>
    have h2 := ih (fun x hx => h1 x (List.mem_cons_of_mem _ hx))
    have h3 := h1 r (by simp)
    have e : bytesOf (r :: R) = r.l.length + bytesOf R := by simp [bytesOf]
    rw [e, List.length_cons, Nat.succ_mul]
    omega
end Go.Proofs.YtadblfnggmaadaaDoor
