/- Walks: what is written with its length ahead: the continuation is called, its child flushed. -/
import Derived.Test.YtohankdfnjogfaaDoorBp2
import Derived.Defers
import Derived.Recover
namespace Go.Proofs.YtohankdfnjogfaaDoor
open Go.RowKit Go.Cv
set_option maxRecDepth 100000
set_option linter.unusedVariables false
set_option maxHeartbeats 2000000 in
/-- The deferred closure of callContinuation, where the frame below returns. -/
theorem contEnd_any (x p icb : Nat) (w : World) (hx : w.cell? ⟨x, 0, none⟩ = some (.pointer (some ⟨p, 0, none⟩))) (hi : w.cell? ⟨p, 7, none⟩ = some (.pointer (some ⟨icb, 0, none⟩))) (v : Value) (hc : w.cell? ⟨icb, 0, none⟩ = some v) (hf : w.frozen? ⟨icb, 0, none⟩ = false) :
    CallsD Tryd.prog 38 #[.pointer (some ⟨x, 0, none⟩)] .returning w fun e u' w' => e = .returned (.tuple #[]) ∧ u' = .returning ∧ w' = w.setCell ⟨icb, 0, none⟩ (.bool false) := by
  refine callsD_of_wpS Tryd.func38 rfl fun c₀ cs hu => ?_
  apply wpS_seq
  refine wpS_of_wp ?_
  go_wp2_with fail
  simp only [Exit.thenS]
  apply wpS_seq
  apply wpS_region
  simp [wpOpsS, go_sem, recoverD, hu, Exit.thenS]
  apply wpS_seq
  apply wpS_seq
  apply wpS_region
  simp [wpOpsS, go_sem, Exit.thenS]
  refine wpS_cond (t := true) (by simp [Act.eval]) ?_
  simp only [if_true]
  refine wpS_of_wp (wp_ret ?_)
  simp only [Exit.thenS]
  cases c₀
  simp_all [bodyPostS, results, Tryd.results38]
/-- What a continuation does: it fills its child, whatever builder that is, with the bytes body; rows of P0 are as in w0. -/
def Fills (P0 : Nat → Prop) (w0 : World) (F : Nat) (cap : Array Value) (icb : Nat) (body : List UInt8) : Prop :=
  ∀ (w1 : World) (P : Nat → Prop) (q off pl : Nat) (l : List UInt8), (∀ k, P0 k → P k) → Kp P0 w0 w1 → w1.cell? ⟨icb, 0, none⟩ = some (.bool true) → P icb → 0 < l.length → l.length + body.length ≤ 280000 →
    BP P w1 q (.pointer (some ⟨icb, 0, none⟩)) off pl l →
    Calls Tryd.prog F (#[.pointer (some ⟨q, 0, none⟩)] ++ cap) w1 fun e w2 => e = .returned (.tuple #[]) ∧ BP P w2 q (.pointer (some ⟨icb, 0, none⟩)) off pl (l ++ body) ∧ Kp P w1 w2
/-- A child that holds l, its row being a. -/
structure Ch (w : World) (q a c icb off pl : Nat) (l : List UInt8) : Prop where
  blk : Blk w q 54 (bldR (some ⟨a, 0, none⟩) l.length c (.pointer none) (.pointer (some ⟨icb, 0, none⟩)) off pl)
  own : Own w 0 1 (some ⟨a, 0, none⟩) l.length c (vs l)
  ne : a ≠ q
  lt : a < w.heap.size
theorem Ch.bp {w : World} {q a c icb off pl : Nat} {l : List UInt8} (h : Ch w q a c icb off pl l) : BP (fun k => k < w.heap.size ∧ k ≠ q ∧ k ≠ a) w q (.pointer (some ⟨icb, 0, none⟩)) off pl l :=
  ⟨_, c, h.blk, h.own, .inr ⟨a, rfl, fun hp => hp.2.2 rfl, h.ne, h.lt⟩, fun hp => hp.2.1 rfl, fun k hk => hk.1⟩
theorem Ch.kp {P : Nat → Prop} {w w' : World} {q a c icb off pl : Nat} {l : List UInt8} (h : Ch w q a c icb off pl l) (hk : Kp P w w') (hq : P q) (ha : P a) : Ch w' q a c icb off pl l :=
  ⟨h.blk.kp hk hq, h.own.kp hk (fun k hk => by simp at hk; subst hk; exact ha), h.ne, Nat.lt_of_lt_of_le h.lt hk.size⟩
theorem Ch.keep {w w' : World} {q a c icb off pl : Nat} {l : List UInt8} (h : Ch w q a c icb off pl l) (hb : Below w.heap.size w w') : Ch w' q a c icb off pl l := h.kp (P := fun _ => True) (Kp.below hb) trivial trivial
theorem BP.ch {P : Nat → Prop} {w : World} {q icb off pl : Nat} {l : List UInt8} (h : BP P w q (.pointer (some ⟨icb, 0, none⟩)) off pl l) (h0 : 0 < l.length) : ∃ a c, Ch w q a c icb off pl l ∧ ¬ P a := by
  obtain ⟨A, c, h1, h2, h3, _, _⟩ := h
  rcases h3 with rfl | ⟨a, rfl, h4, h5, h6⟩
  · obtain ⟨_, hc, _, h | ⟨b, o, hA, _⟩⟩ := h2
    · omega
    · cases hA
  · exact ⟨a, c, ⟨h1, h2, h5, h6⟩, h4⟩
/-- How a continuation's call ends. -/
def ContPost (w : World) (q a icb off pl : Nat) (d : Bool) (l : List UInt8) (e : Ending) (w' : World) : Prop :=
  e = .returned (.tuple #[]) ∧ (∃ a' c', Ch w' q a' c' icb off pl l ∧ (a' = a ∨ w.heap.size ≤ a')) ∧ Kp (fun k => k ≠ q ∧ k ≠ a ∧ (d = true ∨ k ≠ icb)) w w' ∧ w'.cell? ⟨icb, 0, none⟩ = some (.bool d)
/-- callContinuation where a continuation runs already. -/
theorem callIn_any (P0 : Nat → Prop) (w0 w : World) (F : Nat) (cap : Array Value) (p q a c icb off pl : Nat) (l body : List UInt8) (hE : ∀ args w, (callFunc F args).run Tryd.prog w = .ok (.enter F args) w) (hi : w.cell? ⟨p, 7, none⟩ = some (.pointer (some ⟨icb, 0, none⟩))) (hc : w.cell? ⟨icb, 0, none⟩ = some (.bool true))
    (hfill : Fills P0 w0 F cap icb body) (hk0 : Kp P0 w0 w) (hP : ∀ k, P0 k → k < w.heap.size ∧ k ≠ q ∧ k ≠ a) (hch : Ch w q a c icb off pl l) (h0 : 0 < l.length) (hs : l.length + body.length ≤ 280000) (niq : icb ≠ q) (nia : icb ≠ a) :
    Calls Tryd.prog 32 #[.pointer (some ⟨p, 0, none⟩), .func (Fn.func F) #[] cap, .pointer (some ⟨q, 0, none⟩)] w (ContPost w q a icb off pl true (l ++ body)) := by
  have hba := below_alloc w (.cells #[.pointer (some ⟨p, 0, none⟩)] 51)
  have hcs : icb < w.heap.size := block_lt hc
  have HH := Lib.hid (hfill _ _ q off pl l (fun k hk => ⟨Nat.lt_of_lt_of_le (hP k hk).1 hba.size, (hP k hk).2⟩) (hk0.trans (Kp.below hba)) (keep_of_below hba _ _ hc) ⟨Nat.lt_of_lt_of_le hcs hba.size, niq, nia⟩ h0 hs (hch.keep hba).bp)
  have HC := Lib.hid hc
  have H0 : Hid (0 < (l ++ body).length) := Lib.hid (by rw [List.length_append]; omega)
  have NI : Hid (icb ≠ q ∧ icb ≠ a) := Lib.hid ⟨niq, nia⟩
  have hps : p < w.heap.size := block_lt hi
  clear hfill hk0 hP hch h0 hs niq nia hba
  go_enter_defers Tryd.func32, Tryd.ntmps32
  go_wp2_with fail
  refine HH.out.mono ?_
  rintro e w2 ⟨rfl, hb2, hk2⟩
  go_wp2_with fail
  refine ⟨_, results_none rfl _ _ _, rfl, ?_, ?_, ?_⟩
  · obtain ⟨a', c', h1, h2⟩ := hb2.ch H0.out
    refine ⟨a', c', h1, ?_⟩
    by_cases e : a' = a
    · exact .inl e
    · right
      by_cases hlt : w.heap.size ≤ a'
      · exact hlt
      · exact absurd ⟨by rw [World.size_alloc]; omega, h1.ne, e⟩ h2
  · exact (Kp.alloc _ w _).trans (hk2.less (fun k hk hq => ⟨hk, hq.1, hq.2.1⟩))
  · exact hk2.cell (keep_of_below (below_alloc w _) _ _ HC.out) ⟨by rw [World.size_alloc]; simp only; omega, NI.out.1, NI.out.2⟩
set_option maxHeartbeats 2000000 in
/-- callContinuation where none runs yet. -/
theorem callTop_any (P0 : Nat → Prop) (w0 w : World) (F : Nat) (cap : Array Value) (p q a c icb off pl : Nat) (l body : List UInt8) (hE : ∀ args w, (callFunc F args).run Tryd.prog w = .ok (.enter F args) w) (hi : w.cell? ⟨p, 7, none⟩ = some (.pointer (some ⟨icb, 0, none⟩))) (hc : w.cell? ⟨icb, 0, none⟩ = some (.bool false)) (hf : w.frozen? ⟨icb, 0, none⟩ = false)
    (hfill : Fills P0 w0 F cap icb body) (hk0 : Kp P0 w0 w) (hP : ∀ k, P0 k → k < w.heap.size ∧ k ≠ q ∧ k ≠ a ∧ k ≠ icb) (hch : Ch w q a c icb off pl l) (h0 : 0 < l.length) (hs : l.length + body.length ≤ 280000) (niq : icb ≠ q) (nia : icb ≠ a) (npi : p ≠ icb) (npq : p ≠ q) (npa : p ≠ a) :
    Calls Tryd.prog 32 #[.pointer (some ⟨p, 0, none⟩), .func (Fn.func F) #[] cap, .pointer (some ⟨q, 0, none⟩)] w (ContPost w q a icb off pl false (l ++ body)) := by
  have hmf : ∀ (fn : Fn) (first cap : Array Value) (w : World), (Instr.makeFunc fn first cap).run Tryd.prog w = .ok (.func fn first cap) w := fun _ _ _ _ => rfl
  have hcs : icb < w.heap.size := block_lt hc
  have hps : p < w.heap.size := block_lt hi
  have hKs : Kp (fun k => k ≠ icb) w ((w.setCell ⟨icb, 0, none⟩ (.bool true)).alloc (.cells #[.pointer (some ⟨p, 0, none⟩)] 51)) := (Kp.set _ w icb 0 _ (fun h => h rfl)).trans (Kp.alloc _ _ _)
  have hsz : ((w.setCell ⟨icb, 0, none⟩ (.bool true)).alloc (.cells #[.pointer (some ⟨p, 0, none⟩)] 51)).heap.size = w.heap.size + 1 := by rw [World.size_alloc, World.size_setCell]
  have hx : ((w.setCell ⟨icb, 0, none⟩ (.bool true)).alloc (.cells #[.pointer (some ⟨p, 0, none⟩)] 51)).cell? ⟨w.heap.size, 0, none⟩ = some (.pointer (some ⟨p, 0, none⟩)) := by
    have h1 := (Blk.new (w.setCell ⟨icb, 0, none⟩ (.bool true)) 51 #[.pointer (some ⟨p, 0, none⟩)]).cell 0
    rw [World.size_setCell] at h1
    exact h1
  have hic : ((w.setCell ⟨icb, 0, none⟩ (.bool true)).alloc (.cells #[.pointer (some ⟨p, 0, none⟩)] 51)).cell? ⟨icb, 0, none⟩ = some (.bool true) := by
    refine keep_of_below (below_alloc _ _) _ _ ?_
    simp [go_sem, hc]
  have hif : ((w.setCell ⟨icb, 0, none⟩ (.bool true)).alloc (.cells #[.pointer (some ⟨p, 0, none⟩)] 51)).frozen? ⟨icb, 0, none⟩ = false := by
    exact ((below_alloc _ _).frozen (by rw [World.size_setCell]; exact hcs)).trans (by rw [World.frozen?_setCell]; exact hf)
  have HI := Lib.hid (hKs.cell hi npi)
  have HK := Lib.hid hKs
  have HX := Lib.hid hx
  have HIC := Lib.hid hic
  have HIF := Lib.hid hif
  have HSZ := Lib.hid hsz
  have HH := Lib.hid (hfill _ _ q off pl l (fun k hk => ⟨by rw [hsz]; exact Nat.lt_succ_of_lt (hP k hk).1, (hP k hk).2.1, (hP k hk).2.2.1⟩) (hk0.trans (hKs.less (fun k _ hk => (hP k hk).2.2.2))) hic ⟨by rw [hsz]; omega, niq, nia⟩ h0 hs (hch.kp hKs (fun e => niq e.symm) (fun e => nia e.symm)).bp)
  have H0 : Hid (0 < (l ++ body).length) := Lib.hid (by rw [List.length_append]; omega)
  have NN : Hid (icb ≠ q ∧ icb ≠ a ∧ p ≠ q ∧ p ≠ a) := Lib.hid ⟨niq, nia, npq, npa⟩
  have HLT : Hid (q < w.heap.size ∧ a < w.heap.size) := Lib.hid ⟨hch.blk.lt, hch.lt⟩
  clear hfill hk0 hP hch h0 hs niq nia npq npa hKs hx hic hif hsz
  go_enter_defers Tryd.func32, Tryd.ntmps32
  go_wp2_with fail
  refine HH.out.mono ?_
  rintro e w2 ⟨rfl, hb2, hk2⟩
  go_wp2_with fail
  have PX : w.heap.size < ((w.setCell ⟨icb, 0, none⟩ (.bool true)).alloc (.cells #[.pointer (some ⟨p, 0, none⟩)] 51)).heap.size ∧ w.heap.size ≠ q ∧ w.heap.size ≠ a := ⟨by rw [HSZ.out]; exact Nat.lt_succ_self _, fun e => by have := HLT.out.1; omega, fun e => by have := HLT.out.2; omega⟩
  have PI : icb < ((w.setCell ⟨icb, 0, none⟩ (.bool true)).alloc (.cells #[.pointer (some ⟨p, 0, none⟩)] 51)).heap.size ∧ icb ≠ q ∧ icb ≠ a := ⟨by rw [HSZ.out]; omega, NN.out.1, NN.out.2.1⟩
  have PP : p < ((w.setCell ⟨icb, 0, none⟩ (.bool true)).alloc (.cells #[.pointer (some ⟨p, 0, none⟩)] 51)).heap.size ∧ p ≠ q ∧ p ≠ a := ⟨by rw [HSZ.out]; omega, NN.out.2.2.1, NN.out.2.2.2⟩
  refine leaves_cons (f := 38) (args := #[.pointer (some ⟨w.heap.size, 0, none⟩)]) (by simp) (by simp [go_sem]) ?_
  refine (contEnd_any w.heap.size p icb w2 (hk2.cell HX.out PX) (hk2.cell HI.out PP) (.bool true) (hk2.cell HIC.out PI) (hk2.frozen HIF.out PI.1 PI)).mono ?_
  rintro e u' w'' ⟨rfl, rfl, rfl⟩
  refine ⟨_, results_none rfl _ _ _, rfl, ?_, ?_, ?_⟩
  · obtain ⟨a', c', h1, h2⟩ := hb2.ch H0.out
    have hai : a' ≠ icb := fun e => h2 (by rw [e]; exact PI)
    refine ⟨a', c', h1.kp (P := fun k => k ≠ icb) (Kp.set _ w2 icb 0 _ (fun h => h rfl)) (fun e => NN.out.1 e.symm) hai, ?_⟩
    by_cases e : a' = a
    · exact .inl e
    · right
      by_cases hlt : w.heap.size ≤ a'
      · exact hlt
      · exact absurd ⟨by rw [HSZ.out]; omega, h1.ne, e⟩ h2
  · have hQ : Kp (fun k => k ≠ q ∧ k ≠ a ∧ (false = true ∨ k ≠ icb)) w2 (w2.setCell ⟨icb, 0, none⟩ (.bool false)) := Kp.set _ w2 icb 0 _ (fun h => by simpa using h.2.2)
    exact ((HK.out.less (fun k _ hq => by simpa using hq.2.2)).trans (hk2.less (fun k hk hq => ⟨hk, hq.1, hq.2.1⟩))).trans hQ
  · have := hk2.cell HIC.out PI
    simp [go_sem, this]
end Go.Proofs.YtohankdfnjogfaaDoor
