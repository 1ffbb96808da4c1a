/- Walks: a script over a buffer of fragments. -/
import Derived.Test.YtadblfnggmaadaaDoorFgG
import Derived.Test.YtadblfnggmaadaaDoorFgD
namespace Go.Proofs.YtadblfnggmaadaaDoor
open Go.RowKit Go.Cv
set_option maxRecDepth 100000
set_option linter.unusedVariables false
/-- A step of a script, and what is told of one. -/
structure Sf where
  push : Bool
  data : List UInt8
def sfv (s : Sf) : List Value := [.bool s.push, .string (S s.data)]
theorem sfv_length (s : Sf) : (sfv s).length = 2 := rfl
structure Tf where
  hs : Bool
  ag : Bool
  fl : Bool
  has : Bool
  ct : List UInt8
  ep : Nat
  sz : Int
def tfv (t : Tf) : List Value := [.bool t.hs, .bool t.ag, .bool t.fl, .bool t.has, .string (S t.ct), .int .u16 (t.ep : Nat), .int .i64 t.sz]
theorem tfv_length (t : Tf) : (tfv t).length = 7 := rfl
theorem tfv_one (t : Tf) : ∀ v ∈ tfv t, v.oneCell' = true := by
  intro v hv
  simp [tfv] at hv
  rcases hv with rfl | rfl | rfl | rfl | rfl | rfl | rfl <;> rfl
/-- A buffer's state: it waits for message 0 (of which pieces came), or this came out. -/
inductive FS where
  | wait (x : Option (List (Nat × Nat)))
  | done
def FsM (w : World) (F : List Nat) (f : Nat) (body : List UInt8) (kd ep : Nat) : FS → Prop
  | .wait x => BufM w F f body kd ep x
  | .done => BufE w F f
theorem FsM.tch {w w' : World} {F L : List Nat} {f : Nat} {body : List UInt8} {kd ep : Nat} {x : FS} (h : FsM w F f body kd ep x) (ht : Tch L w w') (hL : ∀ k ∈ L, k ∉ F) : FsM w' F f body kd ep x := by
  cases x with
  | wait x => exact BufM.tch h ht hL
  | done => exact BufE.tch h ht hL
theorem FsM.lt {w : World} {F : List Nat} {f : Nat} {body : List UInt8} {kd ep : Nat} {x : FS} (h : FsM w F f body kd ep x) : ∀ k ∈ F, k < w.heap.size := by
  cases x with
  | wait x => exact BufM.lt h
  | done =>
    obtain ⟨m, nc, rfl, h1, ⟨sz, ct, h2⟩, h3⟩ := h
    intro k hk
    rcases List.mem_cons.1 hk with rfl | hk
    · exact h2.lt
    · simp at hk; subst hk; exact h3.lt
/-- What is told of a step, but for what came again and how much is kept. -/
structure Out where
  hs : Bool
  has : Bool
  ct : List UInt8
  ep : Nat
def Out.ok (o : Out) (t : Tf) : Prop := t.hs = o.hs ∧ t.fl = false ∧ t.has = o.has ∧ t.ct = o.ct ∧ t.ep = o.ep
inductive FStep (body : List UInt8) (kd ep : Nat) : FS → Sf → FS → Out → Prop
  | piece (x : Option (List (Nat × Nat))) (sq a z ln : Nat) (l : List UInt8) (hln : a + ln = z) (hz : z ≤ body.length) (hl : (body.take z).drop a = l) (hsq : sq < 281474976710656) (hx : ∀ ps, x = some ps → ps.length ≤ 100) :
      FStep body kd ep (.wait x) ⟨true, headOf 22 254 253 ep sq (12 + ln) [] ++ (hsH kd body.length 0 a ln ++ l)⟩ (.wait (some (x.getD [] ++ [(a, z)]))) ⟨true, false, [], 0⟩
  | other (x : Option (List (Nat × Nat))) (ct e sq cl : Nat) (content : List UInt8) (hct : ct < 256) (h22 : ct ≠ 22) (h25 : ct ≠ 25) (he : e < 65536) (hsq : sq < 281474976710656) (hc : content.length ≤ 65000) (hx : ∀ ps, x = some ps → ps.length ≤ 100) :
      FStep body kd ep (.wait x) ⟨true, headOf ct 254 253 e sq cl [] ++ content⟩ (.wait x) ⟨false, false, [], 0⟩
  | none (d : List UInt8) : FStep body kd ep (.wait none) ⟨false, d⟩ (.wait none) ⟨false, false, [], 0⟩
  | gone (d : List UInt8) : FStep body kd ep .done ⟨false, d⟩ .done ⟨false, false, [], 0⟩
  | whole (ps : List (Nat × Nat)) (d : List UInt8) (hps : ps.length ≤ 100) (hc : ∀ k, k < body.length → CovP ps k) (hb : ∃ p ∈ ps, p.1 = 0) :
      FStep body kd ep (.wait (some ps)) ⟨false, d⟩ .done ⟨false, true, hsW kd body.length ++ body, ep⟩
/-- The memory of the run. -/
structure FgM (body : List UInt8) (kd ep : Nat) (z f : Nat) (F : List Nat) (x : FS) (O : Option Addr) (k co : Nat) (T : List Tf) (w0 w : World) : Prop where
  bel : Below w0.heap.size w0 w
  zz : Blk w z 81 #[.pointer (some ⟨f, 0, none⟩)]
  zb : w0.heap.size ≤ z
  zF : z ∉ F
  buf : FsM w F f body kd ep x
  hiF : ∀ q ∈ F, w0.heap.size ≤ q
  out : Own w 0 7 O k co (rowsOf tfv T)
  hiO : Hi w0.heap.size O
  loO : Lo O w
  zO : O.map (·.block) ≠ some z
  FO : ∀ q ∈ F, O.map (·.block) ≠ some q
theorem FgM.keep {body : List UInt8} {kd ep z f : Nat} {F : List Nat} {x : FS} {O : Option Addr} {k co : Nat} {T : List Tf} {w0 w w' : World} (h : FgM body kd ep z f F x O k co T w0 w) (hb : Below w.heap.size w w') : FgM body kd ep z f F x O k co T w0 w' :=
  ⟨below_two h.bel hb, h.zz.keep hb, h.zb, h.zF, h.buf.tch (Tch.below hb []) (by simp), h.hiF, h.out.keep hb, h.hiO, h.loO.mono hb.size, h.zO, h.FO⟩
/-- The buffer turned. -/
theorem FgM.turn {body : List UInt8} {kd ep z f : Nat} {F F' : List Nat} {x x' : FS} {O : Option Addr} {k co : Nat} {T : List Tf} {w0 w w' : World} (h : FgM body kd ep z f F x O k co T w0 w) (ht : Tch F w w') (hb : FsM w' F' f body kd ep x') (hF : ∀ q ∈ F', q ∈ F ∨ w.heap.size ≤ q ∨ (w0.heap.size ≤ q ∧ q ≠ z ∧ O.map (·.block) ≠ some q)) : FgM body kd ep z f F' x' O k co T w0 w' := by
  have hs := h.bel.size
  have hzl := h.zz.lt
  refine ⟨((Tch.below h.bel []).then ht (fun q hq => .inr (h.hiF q hq))).toBelow (Nat.le_refl _), h.zz.tch ht h.zF, h.zb, fun hm => ?_, hb, fun q hq => ?_, h.out.tch ht ?_, h.hiO, h.loO.mono ht.size, h.zO, fun q hq => ?_⟩
  · rcases hF z hm with h1 | h1 | h1
    · exact h.zF h1
    · omega
    · exact h1.2.1 rfl
  · rcases hF q hq with h1 | h1 | h1
    · exact h.hiF q h1
    · omega
    · exact h1.1
  · rcases h.hiO with h1 | ⟨a, h1, _⟩
    · exact .inl h1
    · exact .inr ⟨a, h1, fun hm => h.FO a hm (by rw [h1]; rfl)⟩
  · rcases hF q hq with h1 | h1 | h1
    · exact h.FO q h1
    · exact fun hm => by have := h.loO q hm; omega
    · exact h1.2.2
/-- A block of the run's own turned. -/
theorem FgM.own_ {body : List UInt8} {kd ep z f : Nat} {F : List Nat} {x : FS} {O : Option Addr} {k co : Nat} {T : List Tf} {w0 w w' : World} (h : FgM body kd ep z f F x O k co T w0 w) {q : Nat} (ht : Tch [q] w w') (hq : w0.heap.size ≤ q) (hqz : q ≠ z) (hqF : q ∉ F) (hqO : O.map (·.block) ≠ some q) : FgM body kd ep z f F x O k co T w0 w' := by
  refine ⟨((Tch.below h.bel []).then ht (by simp; exact hq)).toBelow (Nat.le_refl _), h.zz.tch ht (by simp; exact fun e => hqz e.symm), h.zb, h.zF, h.buf.tch ht (by simp; exact hqF), h.hiF, h.out.tch ht ?_, h.hiO, h.loO.mono ht.size, h.zO, h.FO⟩
  rcases h.hiO with h1 | ⟨a, h1, _⟩
  · exact .inl h1
  · exact .inr ⟨a, h1, fun hm => hqO (by simp at hm; rw [h1, ← hm]; rfl)⟩
/-- Something was told. -/
theorem FgM.told {body : List UInt8} {kd ep z f : Nat} {F : List Nat} {x : FS} {O O' : Option Addr} {k co co' : Nat} {T : List Tf} {t : Tf} {w0 w w' : World} (h : FgM body kd ep z f F x O k co T w0 w)
    (hO : Own w' 0 7 O' (k + 1) co' (rowsOf tfv (T ++ [t]))) (hg : w.grownBy w' (O.map (·.block))) (hor : (O' = O ∧ co' = co) ∨ O' = some ⟨w.heap.size, 0, none⟩) : FgM body kd ep z f F x O' (k + 1) co' (T ++ [t]) w0 w' := by
  have hsz : w0.heap.size ≤ w.heap.size := h.bel.size
  have hT := Tch.grown hg
  have hzl := h.zz.lt
  refine ⟨((Tch.below h.bel []).then hT (fun q hq => .inr (h.hiO.inn q hq))).toBelow (Nat.le_refl _), h.zz.tch hT (fun hm => h.zO (by simpa using hm)), h.zb, h.zF, h.buf.tch hT (fun q hq hm => h.FO q hm (by simpa using hq)), h.hiF, hO, h.hiO.new hor hsz, own_loS hO (Nat.succ_pos k) (by omega), ?_, fun q hq => ?_⟩
  · rcases hor with ⟨rfl, _⟩ | rfl
    · exact h.zO
    · simp; omega
  · rcases hor with ⟨rfl, _⟩ | rfl
    · exact h.FO q hq
    · have := h.buf.lt q hq
      simp; omega
theorem FsM.row {w : World} {F : List Nat} {f : Nat} {body : List UInt8} {kd ep : Nat} {x : FS} (h : FsM w F f body kd ep x) : f ∈ F ∧ ∃ (m cur : Nat) (sz ct : Int), Blk w f 105 (fbRow m cur sz ct) := by
  cases x with
  | wait x =>
    cases x with
    | none =>
      obtain ⟨m, rfl, h1, h2, h3⟩ := h
      exact ⟨by simp, m, 0, 0, 0, h2⟩
    | some ps =>
      obtain ⟨m, g, E, D, n, c, cov, R, st, rfl, h1, h2, h3, h4, h5, h6⟩ := h
      exact ⟨by simp, m, 0, _, _, h4⟩
  | done =>
    obtain ⟨m, nc, rfl, h1, ⟨sz, ct, h2⟩, h3⟩ := h
    exact ⟨by simp, m, 1, sz, ct, h2⟩
theorem BufM.row {w : World} {F : List Nat} {f : Nat} {body : List UInt8} {kd ep : Nat} {x : Option (List (Nat × Nat))} (h : BufM w F f body kd ep x) (hx : ∀ ps, x = some ps → ps.length ≤ 100) (hL : body.length ≤ 3000) : f ∈ F ∧ ∃ (m sz : Nat) (ct : Int), Blk w f 105 (fbRow m 0 (sz : Nat) ct) ∧ sz ≤ 1000000 := by
  cases x with
  | none =>
    obtain ⟨m, rfl, h1, h2, h3⟩ := h
    exact ⟨by simp, m, 0, 0, h2, by omega⟩
  | some ps =>
    obtain ⟨m, g, E, D, n, c, cov, R, st, rfl, h1, h2, h3, h4, h5, h6⟩ := h
    have hp := hx ps rfl
    have hf := h6.few
    have hl := h6.len
    have hby := bytes_few' h6.kept
    have h100 : R.length * body.length ≤ 100 * 3000 := Nat.mul_le_mul (by omega) (by omega)
    exact ⟨by simp, m, bytesOf R, _, h4, by omega⟩
theorem tch3 (w : World) (p i j k : Nat) (a b c : Value) : Tch [p] w (((w.setCell ⟨p, i, none⟩ a).setCell ⟨p, j, none⟩ b).setCell ⟨p, k, none⟩ c).drew := (((Tch.set w p i a).trans (Tch.set _ p j b)).trans (Tch.set _ p k c)).trans ((Tch.drew _).more (by simp))
theorem tfinfo : (Tryd.prog.info? 53).map (fun i => (i.zero, i.size, i.bytes)) = some (some (.agg #[.bool false, .bool false, .bool false, .bool false, .string ByteArray.empty, .int .u16 0, .int .i64 0]), 7, 40) := by kernel_rfl
set_option maxHeartbeats 4000000 in
theorem frags_any (body : List UInt8) (kd ep : Nat) (ss : List Sf) (n c : Nat) (A : Option Addr) (σ : Nat → FS) (os : Nat → Out) (hn : ss.length = n) (hn1 : n ≤ 100) (hL : body.length ≤ 3000) (hkd : kd < 256) (hep : ep < 65536) (h0 : σ 0 = .wait none) (hst : ∀ j s, ss[j]? = some s → FStep body kd ep (σ j) s (σ (j + 1)) (os j)) (ev : Value) (w : World)
    (hr : Rd w A (rowsOf sfv ss)) (v0 : w.cell? ⟨4, 0, none⟩ = some (.int .u8 254) ∧ w.cell? ⟨4, 1, none⟩ = some (.int .u8 255)) (v2 : w.cell? ⟨5, 0, none⟩ = some (.int .u8 254) ∧ w.cell? ⟨5, 1, none⟩ = some (.int .u8 253))
    (hev : w.cell? ⟨0, 0, none⟩ = some ev) :
    Calls Tryd.prog 13 #[.slice A n c] w fun e w' => ∃ O co T, e = .returned (.slice O n co) ∧ n ≤ co ∧ T.length = n ∧ Rd w' O (rowsOf tfv T) ∧ (∀ j t, T[j]? = some t → (os j).ok t) ∧ Below w.heap.size w w' := by
  have HR := Lib.hid (And.intro hr (And.intro v0 (And.intro v2 hev)))
  have HN := Lib.hid (And.intro hn (And.intro hn1 (And.intro hL (And.intro hkd (And.intro hep (And.intro h0 hst))))))
  clear hr v0 v2 hev hn hn1 hL hkd hep h0 hst
  go_enter Tryd.func13, Tryd.ntmps13
  go_wp2_with fail
  refine (zzNewF w).mono ?_
  rintro e w1 ⟨f, m, rfl, hf, hm, hfm, hk, hc, hb⟩
  have HK1 := Lib.hid (And.intro hf (And.intro hm (And.intro hfm (And.intro hk (And.intro hc hb)))))
  clear hf hm hfm hk hc hb
  go_upto_region 2 with (fail)
  have hM0 : FgM body kd ep w1.heap.size f [f, m] (.wait none) none 0 0 [] w (w1.alloc (.cells #[.pointer (some ⟨f, 0, none⟩)] 81)) := by
    obtain ⟨h1, h2, h3, h4, h5, h6⟩ := HK1.out
    have hb := below_alloc w1 (.cells #[.pointer (some ⟨f, 0, none⟩)] 81)
    have hfl := h4.lt
    have hml := h5.lt
    refine ⟨below_two h6 hb, Blk.new _ _ _, h6.size, by simp; omega, ⟨m, rfl, h3, h4.keep hb, h5.tch (Tch.below hb []) (by simp)⟩, by simp; omega, Own.nil _ _ _, .inl rfl, Lo.none _, by simp, by simp⟩
  obtain ⟨z, hz⟩ : ∃ z, w1.heap.size = z := ⟨_, rfl⟩
  rw [hz] at hM0
  simp only [hz]
  have HM0 := Lib.hid hM0
  clear hM0 hz
  generalize w1.alloc (.cells #[.pointer (some ⟨f, 0, none⟩)] 81) = w2 at *
  go_wp2_with fail
  go_loopw [16, 4] (fun x y wr => ∃ (k : Nat) (O : Option Addr) (co : Nat), k ≤ n ∧ x = .int .i64 (k : Nat) ∧ y = .slice O k co ∧ Hid (∃ (F : List Nat) (T : List Tf), T.length = k ∧ (∀ j t, T[j]? = some t → (os j).ok t) ∧ FgM body kd ep z f F (σ k) O k co T w wr)) (fun x _ _ => n - (intOf x).toNat)
  case atStart => exact ⟨0, none, 0, Nat.zero_le _, rfl, rfl, Lib.hid ⟨[f, m], [], rfl, fun j t h => by simp at h, by rw [HN.out.2.2.2.2.2.1]; exact HM0.out⟩⟩
  case round =>
    obtain ⟨k, O, co, hkn, rfl, rfl, HT⟩ := hrel
    by_cases hlt : k < n
    · obtain ⟨F, T, hTk, hTo, hmem⟩ := HT.out
      have HM := Lib.hid (And.intro hTk (And.intro hTo hmem))
      clear hTk hTo hmem HT
      obtain ⟨s, hs⟩ : ∃ s, ss[k]? = some s := ⟨_, List.getElem?_eq_getElem (by rw [HN.out.1]; exact hlt)⟩
      have hstep := HN.out.2.2.2.2.2.2 k s hs
      have hne : rowsOf sfv ss ≠ [] := fun h => by
        have := congrArg List.length h
        rw [rowsOf_length sfv 2 sfv_length, HN.out.1] at this; simp at this; omega
      obtain ⟨b1, o1, rfl, _⟩ := HR.out.1.resolve_left hne
      have c0 := rowsCell sfv_length (HR.out.1.keep HM.out.2.2.bel) k s hs 0 (by omega) _ rfl
      have c1 := rowsCell sfv_length (HR.out.1.keep HM.out.2.2.bel) k s hs 1 (by omega) _ rfl
      rw [Nat.add_zero] at c0
      obtain ⟨pb, dt⟩ := s
      simp only at c0 c1
      have HS := Lib.hid hstep
      have HLT := Lib.hid hlt
      have t0 : (k : Int) < n := by omega
      clear hs hstep hne hlt
      go_upto_region 6 with (fail)
      have hb3 := below_alloc wr (.cells #[.bool pb, .string (S dt)] 47)
      have hk3 := Blk.new wr 47 #[.bool pb, .string (S dt)]
      obtain ⟨q, hq⟩ : ∃ q, wr.heap.size = q := ⟨_, rfl⟩
      rw [hq] at hk3
      simp only [hq]
      have HM3 := Lib.hid (HM.out.2.2.keep hb3)
      have HK3 := Lib.hid hk3
      have HQ3 : Hid (w.heap.size ≤ q ∧ q ≠ z ∧ q ∉ F ∧ O.map (·.block) ≠ some q) := Lib.hid (by
        have h := HM.out.2.2
        refine ⟨by have := h.bel.size; omega, by have := h.zz.lt; omega, fun hm => by have := h.buf.lt q hm; omega, fun hm => by have := h.loO q hm; omega⟩)
      clear hb3 hk3 hq c0 c1
      generalize wr.alloc (.cells #[.bool pb, .string (S dt)] 47) = w3 at *
      go_upto_region 7 with (fail)
      have hb4 := below_alloc w3 (.cells #[.bool false, .bool false, .bool false, .bool false, .string { data := #[] }, .int .u16 0, .int .i64 0] 53)
      have hk4 := Blk.new w3 53 #[.bool false, .bool false, .bool false, .bool false, .string { data := #[] }, .int .u16 0, .int .i64 0]
      obtain ⟨p, hp⟩ : ∃ p, w3.heap.size = p := ⟨_, rfl⟩
      rw [hp] at hk4
      simp only [hp]
      have HM4 := Lib.hid (HM3.out.keep hb4)
      have HK4 := Lib.hid (And.intro (HK3.out.keep hb4) hk4)
      have HP4 : Hid (w.heap.size ≤ p ∧ p ≠ z ∧ p ∉ F ∧ O.map (·.block) ≠ some p) := Lib.hid (by
        have h := HM3.out
        refine ⟨by have := h.bel.size; omega, by have := h.zz.lt; omega, fun hm => by have := h.buf.lt p hm; omega, fun hm => by have := h.loO p hm; omega⟩)
      clear hb4 hk4 hp
      generalize w3.alloc (.cells #[.bool false, .bool false, .bool false, .bool false, .string { data := #[] }, .int .u16 0, .int .i64 0] 53) = w4 at *
      have k0 : w4.cell? ⟨q, 0, none⟩ = some (.bool pb) := (HK4.out.1.cell 0).trans rfl
      obtain ⟨σ1, hσ1⟩ : ∃ x, σ k = x := ⟨_, rfl⟩
      obtain ⟨σ2, hσ2⟩ : ∃ x, σ (k + 1) = x := ⟨_, rfl⟩
      obtain ⟨o1', ho1⟩ : ∃ x, os k = x := ⟨_, rfl⟩
      rw [hσ1] at HM4
      rw [hσ1, hσ2, ho1] at HS
      have HSG := Lib.hid (And.intro hσ2 ho1)
      clear hσ1 hσ2 ho1
      go_upto_if 21 with (fail)
      go_cut [8] (fun s8 wx => ∃ (F' : List Nat) (t : Tf), Hid (FgM body kd ep z f F' σ2 O k co T w wx ∧ Blk wx p 53 #[.bool t.hs, .bool t.ag, .bool t.fl, .bool t.has, .string (S t.ct), .int .u16 (t.ep : Nat), .int .i64 0]) ∧ Hid (p ∉ F' ∧ ∀ s, o1'.ok ⟨t.hs, t.ag, t.fl, t.has, t.ct, t.ep, s⟩))
      case first =>
        have hz0 : w4.cell? ⟨z, 0, none⟩ = some (.pointer (some ⟨f, 0, none⟩)) := (HM4.out.zz.cell 0).trans rfl
        have k1 : w4.cell? ⟨q, 1, none⟩ = some (.string (S dt)) := (HK4.out.1.cell 1).trans rfl
        have HS' := HS.out
        cases HS' with
        | piece x sq a z1 ln l hln hzl hl hsq hx =>
          obtain ⟨dt, hdt⟩ : ∃ dt, headOf 22 254 253 ep sq (12 + ln) [] ++ (hsH kd body.length 0 a ln ++ l) = dt := ⟨_, rfl⟩
          have hll : l.length = ln := by rw [← hl, List.length_drop, List.length_take]; omega
          have hdl : dt.length = 25 + ln := by rw [← hdt, List.length_append, head_len, List.length_append, hll]; simp [hsH]; omega
          rw [hdt] at k1
          have HDT := Lib.hid (And.intro hdt hdl)
          have HPC := Lib.hid (And.intro hln (And.intro hzl (And.intro hl (And.intro hsq hx))))
          have HDM : Hid (dt.length ≤ maxLen) := Lib.hid (by have := HN.out; simp only [maxLen]; omega)
          clear hll hdl hdt hln hzl hl hsq hx HS
          go_wp2_with fail
          refine upon_conv_sb 9 65 5 Tryd.underlying9 Tryd.underlying65 Tryd.underlying5 dt HDM.out ?_
          intro c5 w5 hO5 hb5 hs5
          obtain ⟨d0, hd0⟩ : ∃ d0, w4.heap.size = d0 := ⟨_, rfl⟩
          rw [hd0] at hO5 ⊢
          have HD0 : Hid (w.heap.size ≤ d0 ∧ d0 ≠ z ∧ d0 ∉ F ∧ O.map (·.block) ≠ some d0 ∧ d0 ≠ p) := Lib.hid (by
            have h := HM4.out
            have h2 := HK4.out.2.lt
            refine ⟨by have := h.bel.size; omega, by have := h.zz.lt; omega, fun hm => by have := h.buf.lt d0 hm; omega, fun hm => by have := h.loO d0 hm; omega, by omega⟩)
          have HM5 := Lib.hid (HM4.out.keep hb5)
          have HK5 := Lib.hid (HK4.out.2.keep hb5)
          have HO5 := Lib.hid (And.intro hO5.rd hO5.2.1)
          clear hO5 hb5 hs5 hd0 hz0 k1 k0
          go_wp2_with fail
          refine (zzPush f (.slice (some ⟨d0, 0, none⟩) dt.length c5) w5 (fun e w' => e = .returned (.tuple #[.bool true, .bool false, .nilIface]) ∧ ∃ W, Below w5.heap.size w5 W ∧ PushPost body kd ep a z1 x F f d0 W w') true false (fun W hW => ?_)).mono ?_
          · have hbW := below_two HM5.out.bel hW
            have hdt := HDT.out
            have h0 := HO5.out.1.keep hW
            rw [← hdt.1] at h0
            exact (push_piece body kd ep sq a z1 body.length ln x F f d0 dt.length c5 l rfl HN.out.2.2.1 (by have := HPC.out.1; omega) HPC.out.2.1 HPC.out.2.2.1 HPC.out.1 HN.out.2.2.2.1 HN.out.2.2.2.2.1 HPC.out.2.2.2.1 hdt.2.symm HO5.out.2 HPC.out.2.2.2.2 ev W h0 (HM5.out.keep hW).buf HD0.out.2.2.1 ⟨keep_of_below hbW _ _ HR.out.2.1.1, keep_of_below hbW _ _ HR.out.2.1.2⟩ ⟨keep_of_below hbW _ _ HR.out.2.2.1.1, keep_of_below hbW _ _ HR.out.2.2.1.2⟩ (keep_of_below hbW _ _ HR.out.2.2.2)).mono fun e w' h => ⟨h.1, h.1, W, hW, h.2⟩
          rintro e w6 ⟨⟨rfl, W, hW, F', hB', hT', hF'⟩, _⟩
          have HM6 : Hid (FgM body kd ep z f F' (.wait (some (x.getD [] ++ [(a, z1)]))) O k co T w w6) := Lib.hid ((HM5.out.keep hW).turn hT' hB' (fun q hq => by
            rcases hF' q hq with h | h | h
            · exact .inl h
            · rw [h]; exact .inr (.inr ⟨HD0.out.1, HD0.out.2.1, HD0.out.2.2.2.1⟩)
            · exact .inr (.inl h)))
          have hk6 := (HK5.out.keep hW).tch hT' HP4.out.2.2.1
          have HP6 : Hid (p ∉ F') := Lib.hid fun hm => by
            rcases hF' p hm with h | h | h
            · exact HP4.out.2.2.1 h
            · exact HD0.out.2.2.2.2 h.symm
            · have := (HK5.out.keep hW).lt; omega
          have f0 := hk6.frozen 0
          have f1 := hk6.frozen 1
          have f2 := hk6.frozen 2
          have x0 : w6.cell? ⟨p, 0, none⟩ = some (.bool false) := (hk6.cell 0).trans rfl
          have x1 : w6.cell? ⟨p, 1, none⟩ = some (.bool false) := (hk6.cell 1).trans rfl
          have x2 : w6.cell? ⟨p, 2, none⟩ = some (.bool false) := (hk6.cell 2).trans rfl
          have HFIN : Hid (FgM body kd ep z f F' (.wait (some (x.getD [] ++ [(a, z1)]))) O k co T w (((w6.setCell ⟨p, 0, none⟩ (.bool true)).setCell ⟨p, 1, none⟩ (.bool false)).setCell ⟨p, 2, none⟩ (.bool false)).drew ∧ Blk (((w6.setCell ⟨p, 0, none⟩ (.bool true)).setCell ⟨p, 1, none⟩ (.bool false)).setCell ⟨p, 2, none⟩ (.bool false)).drew p 53 #[.bool true, .bool false, .bool false, .bool false, .string (S []), .int .u16 ((0 : Nat) : Int), .int .i64 0]) := Lib.hid ⟨HM6.out.own_ (tch3 w6 p 0 1 2 _ _ _) HP4.out.1 HP4.out.2.1 HP6.out HP4.out.2.2.2, (((hk6.set_ 0 (.bool true)).set_ 1 (.bool false)).set_ 2 (.bool false)).drew⟩
          clear hW hB' hT' hF' hk6
          go_upto_region 9 with (fail)
          go_region_with (fail)
          all_goals
          try simp only [Act.put]
          try dsimp only [List.getElem_toArray, List.getElem_cons_succ, List.getElem_cons_zero]
          try simp only [List.setIfInBounds_toArray, List.set_cons_zero, List.set_cons_succ]
          go_wp2_with fail
          go_meet
          case rel => exact ⟨F', ⟨true, false, false, false, [], 0, 0⟩, HFIN, Lib.hid ⟨HP6.out, fun s => ⟨rfl, rfl, rfl, rfl, rfl⟩⟩⟩
        | other x ct e sq cl content hct h22 h25 he hsq hc hx =>
          obtain ⟨dt, hdt⟩ : ∃ dt, headOf ct 254 253 e sq cl [] ++ content = dt := ⟨_, rfl⟩
          have hdl : dt.length = 13 + content.length := by rw [← hdt, List.length_append, head_len]
          rw [hdt] at k1
          have HDT := Lib.hid (And.intro hdt hdl)
          have HPC := Lib.hid (And.intro hct (And.intro h22 (And.intro h25 (And.intro he (And.intro hsq (And.intro hc hx))))))
          have HDM : Hid (dt.length ≤ maxLen) := Lib.hid (by simp only [maxLen]; omega)
          clear hdl hdt hct h22 h25 he hsq hc hx HS
          go_wp2_with fail
          refine upon_conv_sb 9 65 5 Tryd.underlying9 Tryd.underlying65 Tryd.underlying5 dt HDM.out ?_
          intro c5 w5 hO5 hb5 hs5
          obtain ⟨d0, hd0⟩ : ∃ d0, w4.heap.size = d0 := ⟨_, rfl⟩
          rw [hd0] at hO5 ⊢
          have HM5 := Lib.hid (HM4.out.keep hb5)
          have HK5 := Lib.hid (HK4.out.2.keep hb5)
          have HO5 := Lib.hid (And.intro hO5.rd hO5.2.1)
          have HD0 : Hid (∀ q ∈ F, q < d0) := Lib.hid fun q hq => by rw [← hd0]; exact HM4.out.buf.lt q hq
          clear hO5 hb5 hs5 hd0 hz0 k1 k0
          go_wp2_with fail
          refine (zzPush f (.slice (some ⟨d0, 0, none⟩) dt.length c5) w5 (fun e w' => e = .returned (.tuple #[.bool false, .bool false, .nilIface]) ∧ Below w5.heap.size w5 w') false false (fun W hW => ?_)).mono ?_
          · have hbW := below_two HM5.out.bel hW
            have hdt := HDT.out
            have h0 := HO5.out.1.keep hW
            rw [← hdt.1] at h0
            obtain ⟨hfF, m', sz', ct', hrow, hsz⟩ := BufM.row (HM5.out.keep hW).buf HPC.out.2.2.2.2.2.2 HN.out.2.2.1
            exact (push_other ct e sq cl content f m' 0 (sz' : Nat) ct' d0 dt.length c5 HPC.out.1 HPC.out.2.1 HPC.out.2.2.1 HPC.out.2.2.2.1 HPC.out.2.2.2.2.1 hdt.2.symm (by have := HPC.out.2.2.2.2.2.1; omega) HO5.out.2 (by omega) (by omega) W h0 hrow (by have := HD0.out f hfF; omega) ⟨keep_of_below hbW _ _ HR.out.2.1.1, keep_of_below hbW _ _ HR.out.2.1.2⟩ ⟨keep_of_below hbW _ _ HR.out.2.2.1.1, keep_of_below hbW _ _ HR.out.2.2.1.2⟩).mono fun e w' h => ⟨h.1, h.1, below_two hW h.2⟩
          rintro e w6 ⟨⟨rfl, hW⟩, _⟩
          have HM6 : Hid (FgM body kd ep z f F (.wait x) O k co T w w6) := Lib.hid (HM5.out.keep hW)
          have hk6 := HK5.out.keep hW
          have HP6 : Hid (p ∉ F) := Lib.hid HP4.out.2.2.1
          have f0 := hk6.frozen 0
          have f1 := hk6.frozen 1
          have f2 := hk6.frozen 2
          have x0 : w6.cell? ⟨p, 0, none⟩ = some (.bool false) := (hk6.cell 0).trans rfl
          have x1 : w6.cell? ⟨p, 1, none⟩ = some (.bool false) := (hk6.cell 1).trans rfl
          have x2 : w6.cell? ⟨p, 2, none⟩ = some (.bool false) := (hk6.cell 2).trans rfl
          have HFIN : Hid (FgM body kd ep z f F (.wait x) O k co T w (((w6.setCell ⟨p, 0, none⟩ (.bool false)).setCell ⟨p, 1, none⟩ (.bool false)).setCell ⟨p, 2, none⟩ (.bool false)).drew ∧ Blk (((w6.setCell ⟨p, 0, none⟩ (.bool false)).setCell ⟨p, 1, none⟩ (.bool false)).setCell ⟨p, 2, none⟩ (.bool false)).drew p 53 #[.bool false, .bool false, .bool false, .bool false, .string (S []), .int .u16 ((0 : Nat) : Int), .int .i64 0]) := Lib.hid ⟨HM6.out.own_ (tch3 w6 p 0 1 2 _ _ _) HP4.out.1 HP4.out.2.1 HP6.out HP4.out.2.2.2, (((hk6.set_ 0 (.bool false)).set_ 1 (.bool false)).set_ 2 (.bool false)).drew⟩
          clear hW hk6
          go_upto_region 9 with (fail)
          go_region_with (fail)
          all_goals
          try simp only [Act.put]
          try dsimp only [List.getElem_toArray, List.getElem_cons_succ, List.getElem_cons_zero]
          try simp only [List.setIfInBounds_toArray, List.set_cons_zero, List.set_cons_succ]
          go_wp2_with fail
          go_meet
          case rel => exact ⟨F, ⟨false, false, false, false, [], 0, 0⟩, HFIN, Lib.hid ⟨HP6.out, fun s => ⟨rfl, rfl, rfl, rfl, rfl⟩⟩⟩
        | none d =>
          clear HS k1 k0
          go_wp2_with fail
          refine (zzPop f w4 (fun e w' => e = .returned (.tuple #[.slice none 0 0, .int .u16 0]) ∧ Below w4.heap.size w4 w') (fun W hW => ?_)).mono ?_
          · have hbf := (HM4.out.keep hW).buf
            obtain ⟨m', hF', h1, h2, h3⟩ := hbf
            exact (pop_none f m' 0 0 0 W h2 (fun W2 h2 => (h3.tch (Tch.below h2 []) (by simp)).look0')).mono fun e w' h => ⟨none, 0, 0, 0, h.1, h.1, below_two hW h.2⟩
          rintro e w6 ⟨⟨rfl, hW⟩, _⟩
          have HM6 : Hid (FgM body kd ep z f F (.wait none) O k co T w w6) := Lib.hid (HM4.out.keep hW)
          have hk6 := HK4.out.2.keep hW
          have HP6 : Hid (p ∉ F) := Lib.hid HP4.out.2.2.1
          have hne := fun W => run_neq_slice_nil (P := Tryd.prog) W 65 5 none 0 0 Tryd.underlying65
          have hcv := fun W => run_conv_bs (P := Tryd.prog) W 65 9 5 Tryd.underlying65 Tryd.underlying5 Tryd.underlying9 [] none 0 0 rfl (.inl rfl)
          simp only [Option.isNone_none, Bool.not_true] at hne
          have f3 := hk6.frozen 3
          have f4 := hk6.frozen 4
          have f5 := hk6.frozen 5
          have x3 : w6.cell? ⟨p, 3, none⟩ = some (.bool false) := (hk6.cell 3).trans rfl
          have x4 : w6.cell? ⟨p, 4, none⟩ = some (.string { data := #[] }) := (hk6.cell 4).trans rfl
          have x5 : w6.cell? ⟨p, 5, none⟩ = some (.int .u16 0) := (hk6.cell 5).trans rfl
          have HFIN : Hid (FgM body kd ep z f F (.wait none) O k co T w (((w6.setCell ⟨p, 3, none⟩ (.bool false)).setCell ⟨p, 4, none⟩ (.string (S []))).setCell ⟨p, 5, none⟩ (.int .u16 ((0 : Nat) : Int))).drew ∧ Blk (((w6.setCell ⟨p, 3, none⟩ (.bool false)).setCell ⟨p, 4, none⟩ (.string (S []))).setCell ⟨p, 5, none⟩ (.int .u16 ((0 : Nat) : Int))).drew p 53 #[.bool false, .bool false, .bool false, .bool false, .string (S []), .int .u16 ((0 : Nat) : Int), .int .i64 0]) := Lib.hid ⟨HM6.out.own_ (tch3 w6 p 3 4 5 _ _ _) HP4.out.1 HP4.out.2.1 HP6.out HP4.out.2.2.2, (((hk6.set_ 3 (.bool false)).set_ 4 (.string (S []))).set_ 5 (.int .u16 ((0 : Nat) : Int))).drew⟩
          clear hW hk6
          go_upto_region 11 with (fail)
          go_region_with (fail)
          all_goals
          try simp only [Act.put]
          try dsimp only [List.getElem_toArray, List.getElem_cons_succ, List.getElem_cons_zero]
          try simp only [List.setIfInBounds_toArray, List.set_cons_zero, List.set_cons_succ]
          go_wp2_with fail
          go_meet
          case rel => exact ⟨F, ⟨false, false, false, false, [], 0, 0⟩, HFIN, Lib.hid ⟨HP6.out, fun s => ⟨rfl, rfl, rfl, rfl, rfl⟩⟩⟩
        | gone d =>
          clear HS k1 k0
          go_wp2_with fail
          refine (zzPop f w4 (fun e w' => e = .returned (.tuple #[.slice none 0 0, .int .u16 0]) ∧ Below w4.heap.size w4 w') (fun W hW => ?_)).mono ?_
          · have hbf := (HM4.out.keep hW).buf
            obtain ⟨m', nc', hF', h1, ⟨sz', ct', h2⟩, h3⟩ := hbf
            exact (pop_none f m' 1 sz' ct' W h2 (fun W2 h2 => (h3.tch (Tch.below h2 []) (by simp)).look1')).mono fun e w' h => ⟨none, 0, 0, 0, h.1, h.1, below_two hW h.2⟩
          rintro e w6 ⟨⟨rfl, hW⟩, _⟩
          have HM6 : Hid (FgM body kd ep z f F (.done) O k co T w w6) := Lib.hid (HM4.out.keep hW)
          have hk6 := HK4.out.2.keep hW
          have HP6 : Hid (p ∉ F) := Lib.hid HP4.out.2.2.1
          have hne := fun W => run_neq_slice_nil (P := Tryd.prog) W 65 5 none 0 0 Tryd.underlying65
          have hcv := fun W => run_conv_bs (P := Tryd.prog) W 65 9 5 Tryd.underlying65 Tryd.underlying5 Tryd.underlying9 [] none 0 0 rfl (.inl rfl)
          simp only [Option.isNone_none, Bool.not_true] at hne
          have f3 := hk6.frozen 3
          have f4 := hk6.frozen 4
          have f5 := hk6.frozen 5
          have x3 : w6.cell? ⟨p, 3, none⟩ = some (.bool false) := (hk6.cell 3).trans rfl
          have x4 : w6.cell? ⟨p, 4, none⟩ = some (.string { data := #[] }) := (hk6.cell 4).trans rfl
          have x5 : w6.cell? ⟨p, 5, none⟩ = some (.int .u16 0) := (hk6.cell 5).trans rfl
          have HFIN : Hid (FgM body kd ep z f F (.done) O k co T w (((w6.setCell ⟨p, 3, none⟩ (.bool false)).setCell ⟨p, 4, none⟩ (.string (S []))).setCell ⟨p, 5, none⟩ (.int .u16 ((0 : Nat) : Int))).drew ∧ Blk (((w6.setCell ⟨p, 3, none⟩ (.bool false)).setCell ⟨p, 4, none⟩ (.string (S []))).setCell ⟨p, 5, none⟩ (.int .u16 ((0 : Nat) : Int))).drew p 53 #[.bool false, .bool false, .bool false, .bool false, .string (S []), .int .u16 ((0 : Nat) : Int), .int .i64 0]) := Lib.hid ⟨HM6.out.own_ (tch3 w6 p 3 4 5 _ _ _) HP4.out.1 HP4.out.2.1 HP6.out HP4.out.2.2.2, (((hk6.set_ 3 (.bool false)).set_ 4 (.string (S []))).set_ 5 (.int .u16 ((0 : Nat) : Int))).drew⟩
          clear hW hk6
          go_upto_region 11 with (fail)
          go_region_with (fail)
          all_goals
          try simp only [Act.put]
          try dsimp only [List.getElem_toArray, List.getElem_cons_succ, List.getElem_cons_zero]
          try simp only [List.setIfInBounds_toArray, List.set_cons_zero, List.set_cons_succ]
          go_wp2_with fail
          go_meet
          case rel => exact ⟨F, ⟨false, false, false, false, [], 0, 0⟩, HFIN, Lib.hid ⟨HP6.out, fun s => ⟨rfl, rfl, rfl, rfl, rfl⟩⟩⟩
        | whole ps d hps hc hb =>
          have HPC := Lib.hid (And.intro hps (And.intro hc hb))
          clear HS k1 k0 hps hc hb
          go_wp2_with fail
          refine (zzPop f w4 (fun e w' => ∃ W, Below w4.heap.size w4 W ∧ PopPost body kd ep F f W e w') (fun W hW => ?_)).mono ?_
          · have hbf := (HM4.out.keep hW).buf
            refine (pop_whole body kd ep body.length ps F f rfl HN.out.2.2.1 HN.out.2.2.2.1 HPC.out.1 W hbf HPC.out.2.1 HPC.out.2.2).mono fun e w' h => ?_
            obtain ⟨b, c, h1, h2⟩ := h
            exact ⟨_, _, _, _, h1, W, hW, b, c, h1, h2⟩
          rintro e w6 ⟨⟨W, hW, b, cb, rfl, hbs, hrd, hbe, ht⟩, _⟩
          have HM6 : Hid (FgM body kd ep z f (F.take 2) .done O k co T w w6) := Lib.hid ((HM4.out.keep hW).turn ht hbe (fun q hq => .inl (List.mem_of_mem_take hq)))
          have hk6 := (HK4.out.2.keep hW).tch ht HP4.out.2.2.1
          have HP6 : Hid (p ∉ F.take 2) := Lib.hid fun hm => HP4.out.2.2.1 (List.mem_of_mem_take hm)
          obtain ⟨CT, hct⟩ : ∃ CT, hsW kd body.length ++ body = CT := ⟨_, rfl⟩
          obtain ⟨nn, hnn⟩ : ∃ nn, 12 + body.length = nn := ⟨_, rfl⟩
          rw [hct] at hrd
          have hcl : CT.length = nn := by rw [← hct, ← hnn, List.length_append]; rfl
          rw [hnn]
          have hne := fun W => run_neq_slice_nil (P := Tryd.prog) W 65 5 (some ⟨b, 0, none⟩) nn cb Tryd.underlying65
          have hcv := run_conv_bs (P := Tryd.prog) w6 65 9 5 Tryd.underlying65 Tryd.underlying5 Tryd.underlying9 CT (some ⟨b, 0, none⟩) nn cb hcl hrd
          have hcv2 := run_conv_bs (P := Tryd.prog) w6.drew 65 9 5 Tryd.underlying65 Tryd.underlying5 Tryd.underlying9 CT (some ⟨b, 0, none⟩) nn cb hcl (hrd.keep (below_drew w6))
          have hbp : b ∉ [p] := by
            have h1 := (HK4.out.2.keep hW).lt
            simp; omega
          have hcv3 := run_conv_bs (P := Tryd.prog) (w6.setCell ⟨p, 3, none⟩ (.bool true)).drew 65 9 5 Tryd.underlying65 Tryd.underlying5 Tryd.underlying9 CT (some ⟨b, 0, none⟩) nn cb hcl ((hrd.tch (Tch.set w6 p 3 _) hbp).keep (below_drew _))
          simp only [Option.isNone_some, Bool.not_false] at hne
          clear hbp
          have f3 := hk6.frozen 3
          have f4 := hk6.frozen 4
          have f5 := hk6.frozen 5
          have x3 : w6.cell? ⟨p, 3, none⟩ = some (.bool false) := (hk6.cell 3).trans rfl
          have x4 : w6.cell? ⟨p, 4, none⟩ = some (.string { data := #[] }) := (hk6.cell 4).trans rfl
          have x5 : w6.cell? ⟨p, 5, none⟩ = some (.int .u16 0) := (hk6.cell 5).trans rfl
          have HFIN : Hid (FgM body kd ep z f (F.take 2) (.done) O k co T w (((w6.setCell ⟨p, 3, none⟩ (.bool true)).setCell ⟨p, 4, none⟩ (.string (S CT))).setCell ⟨p, 5, none⟩ (.int .u16 (ep : Nat))).drew ∧ Blk (((w6.setCell ⟨p, 3, none⟩ (.bool true)).setCell ⟨p, 4, none⟩ (.string (S CT))).setCell ⟨p, 5, none⟩ (.int .u16 (ep : Nat))).drew p 53 #[.bool false, .bool false, .bool false, .bool true, .string (S CT), .int .u16 (ep : Nat), .int .i64 0]) := Lib.hid ⟨HM6.out.own_ (tch3 w6 p 3 4 5 _ _ _) HP4.out.1 HP4.out.2.1 HP6.out HP4.out.2.2.2, (((hk6.set_ 3 (.bool true)).set_ 4 (.string (S CT))).set_ 5 (.int .u16 (ep : Nat))).drew⟩
          have HCT := Lib.hid hct
          clear hct hnn hcl hrd hbe ht hbs
          clear hW hk6
          go_upto_region 11 with (fail)
          go_region_with (fail)
          all_goals
          try simp only [Act.put]
          try dsimp only [List.getElem_toArray, List.getElem_cons_succ, List.getElem_cons_zero]
          try simp only [List.setIfInBounds_toArray, List.set_cons_zero, List.set_cons_succ]
          go_wp2_with fail
          go_meet
          case rel => exact ⟨(F.take 2), ⟨false, false, false, true, CT, ep, 0⟩, HFIN, Lib.hid ⟨HP6.out, fun s => ⟨rfl, rfl, rfl, HCT.out.symm, rfl⟩⟩⟩
      case rest =>
        obtain ⟨F', t, HZ, HO⟩ := hcut
        generalize wc = w7 at *
        clear k0
        have hz0 : w7.cell? ⟨z, 0, none⟩ = some (.pointer (some ⟨f, 0, none⟩)) := (HZ.out.1.zz.cell 0).trans rfl
        obtain ⟨m', cur, sz, ct', hrow⟩ := HZ.out.1.buf.row.2
        have HS7 := Lib.hid (zzSize f m' cur sz ct' w7 hrow)
        clear hrow
        go_wp2_with fail
        refine HS7.out.mono ?_
        rintro e w8 ⟨rfl, hb8⟩
        have HM8 := Lib.hid (HZ.out.1.keep hb8)
        have hk8 := HZ.out.2.keep hb8
        have f6 := hk8.frozen 6
        have x6 : w8.cell? ⟨p, 6, none⟩ = some (.int .i64 0) := (hk8.cell 6).trans rfl
        have HF9 : Hid (FgM body kd ep z f F' σ2 O k co T w (w8.setCell ⟨p, 6, none⟩ (.int .i64 sz)) ∧ Blk (w8.setCell ⟨p, 6, none⟩ (.int .i64 sz)) p 53 #[.bool t.hs, .bool t.ag, .bool t.fl, .bool t.has, .string (S t.ct), .int .u16 (t.ep : Nat), .int .i64 sz]) := Lib.hid ⟨HM8.out.own_ (Tch.set w8 p 6 _) HP4.out.1 HP4.out.2.1 HO.out.1 HP4.out.2.2.2, hk8.set_ 6 (.int .i64 sz)⟩
        clear hb8 hk8 hz0 HS7
        go_upto_region 13 with (fail)
        clear f6 x6
        generalize w8.setCell ⟨p, 6, none⟩ (.int .i64 sz) = w9 at *
        have hk := HF9.out.2
        have x0 : w9.cell? ⟨p, 0, none⟩ = some (.bool t.hs) := (hk.cell 0).trans rfl
        have x1 : w9.cell? ⟨p, 1, none⟩ = some (.bool t.ag) := (hk.cell 1).trans rfl
        have x2 : w9.cell? ⟨p, 2, none⟩ = some (.bool t.fl) := (hk.cell 2).trans rfl
        have x3 : w9.cell? ⟨p, 3, none⟩ = some (.bool t.has) := (hk.cell 3).trans rfl
        have x4 : w9.cell? ⟨p, 4, none⟩ = some (.string (S t.ct)) := (hk.cell 4).trans rfl
        have x5 : w9.cell? ⟨p, 5, none⟩ = some (.int .u16 (t.ep : Nat)) := (hk.cell 5).trans rfl
        have x6 : w9.cell? ⟨p, 6, none⟩ = some (.int .i64 sz) := (hk.cell 6).trans rfl
        clear hk
        have HSB : Hid ((k + 1) * 40 ≤ 140737488355328 ∧ k + 1 ≤ maxLen) := Lib.hid (by have := HN.out.2.1; have := HLT.out; simp only [maxLen]; omega)
        go_wp2_with (at_builtin; refine Held.on ?_)
        refine held_append rfl (.tmp 54) (.tmp 56) 50 50 rfl 0 53 _ 7 40 Tryd.underlying50 (.inl Tryd.underlying50) tfinfo rfl (by omega) (xs := rowsOf tfv T) (ys := tfv ⟨t.hs, t.ag, t.fl, t.has, t.ct, t.ep, sz⟩) (m := 1) rfl rfl (HF9.out.1.out.keep (below_alloc w9 _)) ⟨rfl, tfv_one _, .inl ⟨_, _, rfl, rd_new w9 53 #[.bool t.hs, .bool t.ag, .bool t.fl, .bool t.has, .string (S t.ct), .int .u16 (t.ep : Nat), .int .i64 sz]⟩⟩ HSB.out.1 HSB.out.2 (Nat.zero_le _) ?_
        intro O' co' w10 hO hg hor
        have HM10 : Hid (FgM body kd ep z f F' σ2 O' (k + 1) co' (T ++ [⟨t.hs, t.ag, t.fl, t.has, t.ct, t.ep, sz⟩]) w w10) := Lib.hid ((HF9.out.1.keep (below_alloc w9 _)).told (by rw [rowsOf_append]; simpa [rowsOf] using hO) hg hor)
        have hT2 : ∀ j t', (T ++ [⟨t.hs, t.ag, t.fl, t.has, t.ct, t.ep, sz⟩])[j]? = some t' → (os j).ok t' := by
          intro j t' hj
          by_cases h : j < T.length
          · rw [List.getElem?_append_left h] at hj
            exact HM.out.2.1 j t' hj
          · have hl := (List.getElem?_eq_some_iff.1 hj).1
            simp at hl
            obtain rfl : j = T.length := by omega
            simp at hj
            subst hj
            rw [HM.out.1, HSG.out.2]
            exact HO.out.2 sz
        have HT2 := Lib.hid hT2
        have jw : wrap64 ((k : Int) + 1) = (k : Int) + 1 := w64_inc HLT.out (by have := HN.out.2.1; omega)
        clear hO hg hor hT2 x0 x1 x2 x3 x4 x5 x6
        go_wp2_with fail
        have hlt := HLT.out
        go_roundw
        case rel => exact ⟨k + 1, O', co', hlt, by first | (rw [jw]; go_num) | go_num, rfl, Lib.hid ⟨F', T ++ [⟨t.hs, t.ag, t.fl, t.has, t.ct, t.ep, sz⟩], by simp [HM.out.1], HT2.out, by rw [HSG.out.1]; exact HM10.out⟩⟩
        case measure => first | exact t_measD hlt | (rw [jw]; exact t_measD hlt)
    · obtain rfl : k = n := by omega
      have t1 : ¬ k < k := Nat.lt_irrefl _
      obtain ⟨F, T, h1, h2, h3⟩ := HT.out
      have HF := Lib.hid (And.intro h1 (And.intro h2 h3))
      clear h1 h2 h3 HT
      go_wp2_with fail
      go_ret
      exact ⟨O, co, T, rfl, HF.out.2.2.out.2.1, HF.out.1, HF.out.2.2.out.rd, HF.out.2.1, HF.out.2.2.bel⟩
end Go.Proofs.YtadblfnggmaadaaDoor
