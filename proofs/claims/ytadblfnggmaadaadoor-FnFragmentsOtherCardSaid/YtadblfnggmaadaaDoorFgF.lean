/- Walks: a whole message comes out of the buffer. -/
import Derived.Test.YtadblfnggmaadaaDoorFgP
namespace Go.Proofs.YtadblfnggmaadaaDoor
open Go.RowKit Go.Cv
set_option maxRecDepth 100000
set_option linter.unusedVariables false
def PopPost (body : List UInt8) (kd ep : Nat) (F : List Nat) (f : Nat) (w : World) (e : Ending) (w' : World) : Prop :=
  ∃ b c, e = .returned (.tuple #[.slice (some ⟨b, 0, none⟩) (12 + body.length) c, .int .u16 (ep : Nat)]) ∧ w.heap.size ≤ b ∧ Rd w' (some ⟨b, 0, none⟩) (vs (hsW kd body.length ++ body)) ∧ BufE w' (F.take 2) f ∧ Tch F w w'
/-- What the loop keeps. -/
structure PopM (w wr : World) (f m g n : Nat) (kd L : Nat) (body : List UInt8) (R : List Rg) (O : Option Addr) (k co j : Nat) : Prop where
  own : Own wr 0 1 O k co (vs (hsW kd L ++ body.take (curs R j)))
  hi : Hi w.heap.size O
  ne : O ≠ none
  tch : Tch [f] w wr
  fb : Blk wr f 105 (fbRow m 0 (bytesOf (R.drop j) : Nat) (n : Nat))
set_option maxHeartbeats 4000000 in
theorem pop_whole (body : List UInt8) (kd ep L : Nat) (ps : List (Nat × Nat)) (F : List Nat) (f : Nat) (hL : body.length = L) (hL3 : L ≤ 3000) (hkd : kd < 256) (hps : ps.length ≤ 100) (w : World) (hB : BufM w F f body kd ep (some ps)) (hcov : ∀ k, k < L → CovP ps k) (hbeg : ∃ p ∈ ps, p.1 = 0) :
    Calls Tryd.prog 33 #[.pointer (some ⟨f, 0, none⟩)] w (PopPost body kd ep F f w) := by
  obtain ⟨m, g, E, D, n, c, cov, R, st, rfl, hfm, hfn, hmn, hf, hc, hM⟩ := hB
  have hcv : ∀ k, k < body.length → CovBy R k := fun k hk => (hM.cv k).2 (hcov k (by omega))
  have hcL := whole_cov hM.kept hcv
  rw [hL] at hcL
  obtain rfl := hcL.symm
  obtain ⟨fl, rfl⟩ : ∃ fl, st = some fl := Option.isSome_iff_exists.1 (hM.beg.2 hbeg)
  have HM := Lib.hid (And.intro hM (And.intro hf hc))
  have HN := Lib.hid (And.intro hL (And.intro hL3 (And.intro hkd (And.intro hps (And.intro hcv (And.intro hfm (And.intro hfn hmn)))))))
  have HN1 : Hid (n ≤ 100) := Lib.hid (by have := hM.few; omega)
  have y0 : w.cell? ⟨f, 0, none⟩ = some (.map (some m)) := (hf.cell 0).trans (by simp [fbRow])
  have y1 : w.cell? ⟨f, 1, none⟩ = some (.int .u16 0) := (hf.cell 1).trans (by simp [fbRow])
  have lk := hc.look
  have lk2 := (hc.tch (Tch.drew w) (by simp)).look
  have HD := Lib.hid (below_drew w)
  clear hM hf hc hL hL3 hkd hps hcv hfm hfn hmn hcov hbeg
  go_enter Tryd.func33, Tryd.ntmps33
  go_upto_region 1 with (fail)
  go_cut [4, 5] (fun s4 s5 wx => s4 = .pointer (some ⟨g, 0, none⟩) ∧ s5 = .bool true ∧ Hid (Below w.heap.size w wx))
  case first =>
    go_region_with (fail)
    all_goals
    simp only [Act.put]
    dsimp only [List.getElem_toArray, List.getElem_cons_succ, List.getElem_cons_zero]
    simp only [List.setIfInBounds_toArray, List.set_cons_zero, List.set_cons_succ]
    go_wp2_with fail
    go_meet
    case rel => exact ⟨rfl, rfl, HD⟩
  case rest =>
  obtain ⟨rfl, rfl, HB1⟩ := hcut
  generalize wc = w1 at *
  have HM1 : Hid (MsgM w1 body kd ep ps g E D n c L R (some fl)) := Lib.hid (HM.out.1.tch (Tch.below HB1.out []) (by simp))
  have hk := HM1.out.fr
  rw [HN.out.1] at hk
  have g1 : w1.cell? ⟨g, 1, none⟩ = some (.int .u32 (L : Nat)) := (hk.cell 1).trans (by simp [frRow, restRow])
  have g3 : w1.cell? ⟨g, 3, none⟩ = some (.int .u32 (L : Nat)) := (hk.cell 3).trans (by simp [frRow, restRow])
  clear hk y0 y1 lk lk2 HD
  go_upto_region 2 with (fail)
  go_quiet (fail)
  have HB2 := Lib.hid (below_two HB1.out (below_drewN (Below.refl w1.heap.size w1) nq))
  have HM2 : Hid (MsgM (w1.drewN nq) body kd ep ps g E D n c L R (some fl)) := Lib.hid (HM1.out.tch (Tch.below (below_drewN (Below.refl w1.heap.size w1) nq) []) (by simp))
  clear g1 g3 HM1
  generalize w1.drewN nq = w2 at *
  have hk := HM2.out.fr
  rw [HN.out.1] at hk
  have g4 : w2.cell? ⟨g, 4, none⟩ = some (.int .u8 (kd : Nat)) := (hk.cell 4).trans (by simp [frRow, restRow])
  have g5 : w2.cell? ⟨g, 5, none⟩ = some (.int .u32 (L : Nat)) := (hk.cell 5).trans (by simp [frRow, restRow])
  have g6 : w2.cell? ⟨g, 6, none⟩ = some (.int .u16 0) := (hk.cell 6).trans (by simp [frRow, restRow])
  have g7 : w2.cell? ⟨g, 7, none⟩ = some (.int .u32 0) := (hk.cell 7).trans (by simp [frRow, restRow])
  have g8 : w2.cell? ⟨g, 8, none⟩ = some (.int .u32 (fl : Nat)) := (hk.cell 8).trans (by simp [frRow, restRow])
  clear hk
  go_upto_region 5 with (fail)
  have hb3 := below_alloc w2 (.cells #[.int .u8 (kd : Nat), .int .u32 (L : Nat), .int .u16 0, .int .u32 0, .int .u32 (fl : Nat)] 90)
  have hk3 := Blk.new w2 90 #[.int .u8 (kd : Nat), .int .u32 (L : Nat), .int .u16 0, .int .u32 0, .int .u32 (fl : Nat)]
  obtain ⟨p, hp⟩ : ∃ p, w2.heap.size = p := ⟨_, rfl⟩
  have HP : Hid (w.heap.size ≤ p) := Lib.hid (by have := HB2.out.size; omega)
  rw [hp] at hk3
  simp only [hp]
  have HB3 := Lib.hid (below_two HB2.out hb3)
  have HM3 : Hid (MsgM (w2.alloc (.cells #[.int .u8 (kd : Nat), .int .u32 (L : Nat), .int .u16 0, .int .u32 0, .int .u32 (fl : Nat)] 90)) body kd ep ps g E D n c L R (some fl)) := Lib.hid (HM2.out.tch (Tch.below hb3 []) (by simp))
  clear g4 g5 g6 g7 g8 hb3 hp HM2
  generalize w2.alloc (.cells #[.int .u8 (kd : Nat), .int .u32 (L : Nat), .int .u16 0, .int .u32 0, .int .u32 (fl : Nat)] 90) = w3 at *
  have p1 : w3.cell? ⟨p, 1, none⟩ = some (.int .u32 (L : Nat)) := (hk3.cell 1).trans rfl
  have p3 : w3.cell? ⟨p, 3, none⟩ = some (.int .u32 0) := (hk3.cell 3).trans rfl
  have p4 : w3.cell? ⟨p, 4, none⟩ = some (.int .u32 (fl : Nat)) := (hk3.cell 4).trans rfl
  have f3 := hk3.frozen 3
  have f4 := hk3.frozen 4
  have HK3 := Lib.hid hk3
  clear hk3
  go_upto_region 7 with (fail)
  have tp := (Tch.set w3 p 3 (.int .u32 0)).trans (Tch.set _ p 4 (.int .u32 (L : Nat)))
  have hk4 : Blk ((w3.setCell ⟨p, 3, none⟩ (.int .u32 0)).setCell ⟨p, 4, none⟩ (.int .u32 (L : Nat))) p 90 #[.int .u8 (kd : Nat), .int .u32 (L : Nat), .int .u16 ((0 : Nat) : Int), .int .u32 ((0 : Nat) : Int), .int .u32 (L : Nat)] := (HK3.out.set_ 3 (.int .u32 0)).set_ 4 (.int .u32 (L : Nat))
  have hnp : p ∉ foot g E ∧ p ∉ D := by
    have h1 := HM.out.1.toMsgN
    have h2 := HP.out
    refine ⟨fun hm => ?_, fun hm => ?_⟩
    · have := HM.out.1.lt p (List.mem_append.2 (.inl hm)); omega
    · have := HM.out.1.lt p (List.mem_append.2 (.inr hm)); omega
  have HM4 : Hid (MsgM ((w3.setCell ⟨p, 3, none⟩ (.int .u32 0)).setCell ⟨p, 4, none⟩ (.int .u32 (L : Nat))) body kd ep ps g E D n c L R (some fl)) := Lib.hid (HM3.out.tch tp (by simpa using hnp))
  have HB4 : Hid (Below w.heap.size w ((w3.setCell ⟨p, 3, none⟩ (.int .u32 0)).setCell ⟨p, 4, none⟩ (.int .u32 (L : Nat)))) := Lib.hid (((Tch.below HB3.out []).then tp (by simp; exact HP.out)).toBelow (Nat.le_refl _))
  have HK4 := Lib.hid hk4
  clear p1 p3 p4 f3 f4 hk4 tp hnp HK3 HM3
  generalize (w3.setCell ⟨p, 3, none⟩ (.int .u32 0)).setCell ⟨p, 4, none⟩ (.int .u32 (L : Nat)) = w4 at *
  go_wp2_with fail
  refine (handMarshal_ok p kd L 0 0 L (by have := HN.out.2.2.1; omega) w4 HK4.out).mono ?_
  rintro e w5 ⟨A5, c5, rfl, hb5, hr5⟩
  have HR5 : Hid (Rd w5 A5 (vs (hsW kd L))) := Lib.hid (by rw [hsW_vs kd L HN.out.2.2.1]; exact hr5)
  have HB5 := Lib.hid (below_two HB4.out hb5)
  have HM5 : Hid (MsgM w5 body kd ep ps g E D n c L R (some fl)) := Lib.hid (HM4.out.tch (Tch.below hb5 []) (by simp))
  clear hr5 hb5 HM4 HK4
  have hk := HM5.out.fr
  rw [HN.out.1] at hk
  have g3 : w5.cell? ⟨g, 3, none⟩ = some (.int .u32 (L : Nat)) := (hk.cell 3).trans (by simp [frRow, restRow])
  obtain ⟨q, hq⟩ : ∃ q, 12 + L = q := ⟨_, rfl⟩
  have HQ := Lib.hid hq
  have e1 : (12 : Int) + (L : Int) = (q : Int) := by omega
  have HW : Hid ((wrap64 (L : Int) = L ∧ IntKind.i64.wrap (L : Int) = L) ∧ (wrap64 (q : Int) = q ∧ IntKind.i64.wrap (q : Int) = q)) := Lib.hid (by have := HN.out.2.1; exact ⟨⟨w64_all L (by omega), i64_nat L (by omega)⟩, ⟨w64_all q (by omega), i64_nat q (by omega)⟩⟩)
  clear hk hq
  obtain ⟨⟨w1, w2⟩, w3', w4'⟩ := HW.out
  go_wp2_with fail
  refine upon_make 65 5 (.int .u8 0) 1 Tryd.underlying65 u8info rfl 0 q rfl rfl (Nat.zero_le _) (by have := HQ.out; have := HN.out.2.1; omega) (by have := HQ.out; have := HN.out.2.1; simp only [maxLen]; omega) ?_
  intro w6 hO6 hb6 hs6
  obtain ⟨d0, hd0⟩ : ∃ d0, w5.heap.size = d0 := ⟨_, rfl⟩
  have HD0 : Hid (w.heap.size ≤ d0) := Lib.hid (by have := HB5.out.size; omega)
  rw [hd0] at hO6 ⊢
  have HO6 : Hid (Own w6 0 1 (some ⟨d0, 0, none⟩) 0 q []) := Lib.hid (hO6.lower (Nat.zero_le _))
  have HB6 := Lib.hid (below_two HB5.out hb6)
  have HR6 := Lib.hid (HR5.out.keep hb6)
  have HM6 : Hid (MsgM w6 body kd ep ps g E D n c L R (some fl)) := Lib.hid (HM5.out.tch (Tch.below hb6 []) (by simp))
  clear hO6 hb6 hs6 hd0 g3 e1 w1 w2 w3' w4' HM5 HR5
  go_wp2_with (at_builtin; refine Held.on ?_)
  refine held_append rfl (.tmp 58) (.tmp 59) 65 65 rfl 0 5 _ 1 1 Tryd.underlying65 (.inl Tryd.underlying65) u8info rfl (by omega) (xs := []) (ys := vs (hsW kd L)) (m := 12) rfl rfl HO6.out ⟨by rw [vs_length]; rfl, vs_one _, .inl ⟨_, _, rfl, HR6.out⟩⟩ (by omega) (by simp only [maxLen]; omega) (Nat.zero_le _) ?_
  intro O' co' w7 hO hg hor
  have ht7 : Tch [d0] w6 w7 := Tch.grown hg
  have HT7 : Hid (Tch [f] w w7) := Lib.hid ((Tch.below HB6.out [f]).then ht7 (by simp; exact .inr HD0.out))
  have hf7 : Blk w7 f 105 (fbRow m 0 (bytesOf R : Nat) (n : Nat)) := (HM.out.2.1.keep HB6.out).tch ht7 (by have := HM.out.2.1.lt; have := HD0.out; simp; omega)
  have hHi : Hi w.heap.size O' := by
    rcases hor with ⟨rfl, _⟩ | rfl
    · exact .inr ⟨_, rfl, HD0.out⟩
    · exact .inr ⟨_, rfl, HB6.out.size⟩
  have hOn : O' ≠ none := by rcases hor with ⟨rfl, _⟩ | rfl <;> simp
  have HPM : Hid (PopM w w7 f m g n kd L body R O' 12 co' 0) := Lib.hid ⟨by simpa [curs] using hO, hHi, hOn, HT7.out, by simpa using hf7⟩
  have HM7 : Hid (MsgM w7 body kd ep ps g E D n c L R (some fl)) := Lib.hid (HM6.out.tch ht7 (by
    have h1 := HD0.out
    have h2 := HM.out.1.lt
    simp
    exact ⟨fun hm => by have := h2 d0 (List.mem_append.2 (.inl hm)); omega, fun hm => by have := h2 d0 (List.mem_append.2 (.inr hm)); omega⟩))
  have HX7 : Hid (∀ W, Tch [f] w W → MsgM W body kd ep ps g E D n c L R (some fl)) := Lib.hid fun W hW => HM.out.1.tch hW (by
    have h1 := HN.out.2.2.2.2.2.2.1
    simp
    simp only [List.mem_append, not_or] at h1
    exact h1)
  clear hO hg hor ht7 hf7 hHi hOn HT7 HM6 HO6 HR6
  have g0 : w7.cell? ⟨g, 0, none⟩ = some (.slice E n c) := (HM7.out.fr.cell 0).trans (by simp [frRow])
  go_wp2_with fail
  clear g0
  go_loopw [66, 2, 9] (fun x s y wr => ∃ (j k co : Nat) (O : Option Addr), j ≤ n ∧ x = .int .i64 (j : Nat) ∧ s = .slice O k co ∧ y = .int .u32 (curs R j : Nat) ∧ Hid (PopM w wr f m g n kd L body R O k co j)) (fun x _ _ _ => n - (intOf x).toNat)
  case atStart => exact ⟨0, 12, co', O', Nat.zero_le _, rfl, rfl, rfl, HPM⟩
  case round =>
    obtain ⟨j, k, co, O, hj, rfl, rfl, rfl, HI⟩ := hrel
    by_cases hlt : j < n
    · have hM := HX7.out wr HI.out.tch
      obtain ⟨r, hr⟩ : ∃ r, R[j]? = some r := ⟨_, List.getElem?_eq_getElem (by rw [hM.len]; exact hlt)⟩
      obtain ⟨a0, rfl⟩ := rgAddr hM.hiE hM.row.rd hr
      obtain ⟨hrl, hrv⟩ := List.getElem?_eq_some_iff.1 hr
      obtain ⟨c0, c1⟩ := rgCell hM.row.rd j hrl
      rw [hrv, Nat.zero_add] at c0 c1
      have hcs := curs_step hM.kept HN.out.2.2.2.2.1 hr
      have hfin := hM.kept.fin r (List.mem_of_getElem? hr)
      have htx := hM.kept.txt r (List.mem_of_getElem? hr)
      have hdt := hM.dat r (List.mem_of_getElem? hr)
      have hpo := piece_on htx hcs.1 hcs.2.1
      have hnx := curs_next hr
      have hbd := bytes_drop hr
      have hbr := bytes_few' hM.kept
      have hb300 : R.length * body.length ≤ 100 * 3000 := Nat.mul_le_mul (by have := hM.len; have := HN1.out; omega) (by have := HN.out; omega)
      have hbs : bytesOf (R.drop j) ≤ bytesOf R := by
        have h := bytes_append (R.take j) (R.drop j)
        rw [List.take_append_drop] at h
        omega
      obtain ⟨rA, hrA⟩ : ∃ rA, r.A = rA := ⟨_, rfl⟩
      obtain ⟨rc, hrc⟩ : ∃ rc, r.c = rc := ⟨_, rfl⟩
      obtain ⟨rl, hrl2⟩ : ∃ rl, r.l = rl := ⟨_, rfl⟩
      obtain ⟨m1, hm1⟩ : ∃ m1, rl.length = m1 := ⟨_, rfl⟩
      obtain ⟨o1, ho1⟩ : ∃ o1, r.off = o1 := ⟨_, rfl⟩
      obtain ⟨f1, hf1⟩ : ∃ f1, r.fin = f1 := ⟨_, rfl⟩
      obtain ⟨cu, hcu⟩ : ∃ cu, curs R j = cu := ⟨_, rfl⟩
      have hof : o1 + m1 = f1 := by rw [← ho1, ← hm1, ← hf1, ← hrl2]; rfl
      rw [hrA, hrc, hrl2, hm1] at c1
      rw [ho1] at c0
      rw [ho1, hf1, hcu] at hcs
      rw [hrl2, ho1, hf1, hcu] at hpo
      rw [hrl2, hm1] at hbd
      rw [hf1] at hnx hfin
      rw [hrA, hrc, hrl2] at hdt
      have HPI := Lib.hid (And.intro hpo (And.intro hnx (And.intro hbd (And.intro hof (And.intro hcs (And.intro hm1 hdt))))))
      have HIJ : Hid (Own wr 0 1 O k co (vs (hsW kd L ++ body.take cu)) ∧ Hi w.heap.size O ∧ O ≠ none ∧ Tch [f] w wr ∧ Blk wr f 105 (fbRow m 0 (bytesOf (R.drop j) : Nat) (n : Nat))) := Lib.hid ⟨by rw [← hcu]; exact HI.out.own, HI.out.hi, HI.out.ne, HI.out.tch, HI.out.fb⟩
      have HSZ : Hid (bytesOf (R.drop j) ≤ 300000 ∧ f1 ≤ L) := Lib.hid (by have := HN.out; omega)
      have HEN := Lib.hid (fun W => end_any o1 m1 rc f1 rA hof (by have := HN.out; omega) W)
      rw [hcu]
      have t0 : (j : Int) < n := by omega
      have HLT := Lib.hid hlt
      clear hM hrl hrv hcs hfin htx hdt hpo hnx hbd hbr hb300 hbs hof hm1 hlt
      go_upto_region 14 with (fail)
      have hb8 := below_alloc wr (.cells #[.int .u32 (o1 : Nat), .slice rA m1 rc] 94)
      have hk8 := Blk.new wr 94 #[.int .u32 (o1 : Nat), .slice rA m1 rc]
      obtain ⟨p11, hp11⟩ : ∃ p11, wr.heap.size = p11 := ⟨_, rfl⟩
      rw [hp11] at hk8
      simp only [hp11]
      have HP11 : Hid (w.heap.size ≤ p11 ∧ (∀ q, O.map (·.block) = some q → q < p11) ∧ f < p11) := Lib.hid ⟨by have := HIJ.out.2.2.2.1.size; omega, fun q hq => by
        have h0 := own_loS HIJ.out.1 (by
          have h := HIJ.out.1.1
          rw [vs_length, List.length_append] at h
          have h2 : (hsW kd L).length = 12 := rfl
          omega) (by omega) q hq
        omega, by have := HIJ.out.2.2.2.2.lt; omega⟩
      have HO8 := Lib.hid (HIJ.out.1.keep hb8)
      have HT8 : Hid (Tch [f] w (wr.alloc (.cells #[.int .u32 (o1 : Nat), .slice rA m1 rc] 94))) := Lib.hid (HIJ.out.2.2.2.1.trans (Tch.below hb8 _))
      have HF8 := Lib.hid (HIJ.out.2.2.2.2.keep hb8)
      have HK8 := Lib.hid hk8
      have HDT8 : Hid ((rl = [] ∧ rA = none ∧ rc = 0) ∨ ∃ b' o', rA = some ⟨b', o', none⟩ ∧ m1 ≤ rc ∧ Rd (wr.alloc (.cells #[.int .u32 (o1 : Nat), .slice rA m1 rc] 94)) (some ⟨b', o', none⟩) (vs rl)) := Lib.hid (by
        rcases HPI.out.2.2.2.2.2.2 with h | ⟨b', o', h1, _, h3, h4⟩
        · exact .inl h
        · exact .inr ⟨b', o', h1, by rw [← HPI.out.2.2.2.2.2.1]; exact h3, h4.keep hb8⟩)
      clear hb8 hk8 hp11 c0 c1
      generalize wr.alloc (.cells #[.int .u32 (o1 : Nat), .slice rA m1 rc] 94) = w8 at *
      have k0 : w8.cell? ⟨p11, 0, none⟩ = some (.int .u32 (o1 : Nat)) := (HK8.out.cell 0).trans rfl
      have k1 : w8.cell? ⟨p11, 1, none⟩ = some (.slice rA m1 rc) := (HK8.out.cell 1).trans rfl
      obtain ⟨dd, hdd⟩ : ∃ dd, cu - o1 = dd := ⟨_, rfl⟩
      have e1 : (cu : Int) - (o1 : Int) = (dd : Int) := by have := HPI.out.2.2.2.2.1; omega
      have HDD : Hid (dd ≤ m1 ∧ cu - o1 = dd ∧ dd ≤ 3000 ∧ m1 ≤ 3000 ∧ k = 12 + cu ∧ cu ≤ 3000) := Lib.hid (by
        have h1 := HPI.out.2.2.2.2.1
        have h2 := HPI.out.2.2.2.1
        have h3 := HSZ.out.2
        have h4 := HO8.out.1
        have h6 := HN.out.1
        have h7 := HN.out.2.1
        rw [vs_length, List.length_append, List.length_take, Nat.min_eq_left (by omega), show (hsW kd L).length = 12 from rfl, Nat.mul_one] at h4
        omega)
      have HFIN : Hid (∀ (O2 : Option Addr) (co2 K : Nat) (w9 : World), Own w9 0 1 O2 K co2 (vs (hsW kd L ++ body.take cu) ++ vs (rl.drop dd)) → w8.grownBy w9 (O.map (·.block)) → ((O2 = O ∧ co2 = co) ∨ O2 = some ⟨w8.heap.size, 0, none⟩) →
          Own w9 0 1 O2 K co2 (vs (hsW kd L ++ body.take f1)) ∧ Hi w.heap.size O2 ∧ O2 ≠ none ∧ Tch [f] w w9 ∧ Blk w9 f 105 (fbRow m 0 (bytesOf (R.drop j) : Nat) (n : Nat)) ∧ Blk w9 p11 94 #[.int .u32 (o1 : Nat), .slice rA m1 rc]) := by
        refine Lib.hid fun O2 co2 K w9 hO hg hor => ?_
        have h1 := HPI.out.1
        rw [HDD.out.2.1] at h1
        have hs8 := HT8.out.size
        have hfl := HM.out.2.1.lt
        have hp := HP11.out
        refine ⟨?_, HIJ.out.2.1.new hor hs8, ?_, HT8.out.then (Tch.grown hg) (fun q hq => .inr (HIJ.out.2.1.inn q hq)), HF8.out.tch (Tch.grown hg) (HIJ.out.2.1.notin hfl), HK8.out.tch (Tch.grown hg) (fun hm => ?_)⟩
        · rw [← vs_append, List.append_assoc, h1] at hO
          exact hO
        · rcases hor with ⟨rfl, _⟩ | rfl
          · exact HIJ.out.2.2.1
          · simp
        · have := hp.2.1 p11 (by simpa using hm)
          omega
      have HW8 := Lib.hid (u32_wrap dd (by have := HDD.out; omega))
      clear hdd
      go_cut [2] (fun s2 wx => ∃ (O2 : Option Addr) (k2 co2 : Nat), s2 = .slice O2 k2 co2 ∧ Hid (Own wx 0 1 O2 k2 co2 (vs (hsW kd L ++ body.take f1)) ∧ Hi w.heap.size O2 ∧ O2 ≠ none ∧ Tch [f] w wx ∧ Blk wx f 105 (fbRow m 0 (bytesOf (R.drop j) : Nat) (n : Nat)) ∧ Blk wx p11 94 #[.int .u32 (o1 : Nat), .slice rA m1 rc]))
      case first =>
        have w1 := HW8.out
        have hkk : (k + (m1 - dd)) * 1 ≤ 140737488355328 ∧ k + (m1 - dd) ≤ maxLen := by have := HDD.out; simp only [maxLen]; omega
        have HKK := Lib.hid hkk
        clear hkk
        rcases HDT8.out with ⟨h1, h2, h3⟩ | ⟨b', o', h1, h2, h3⟩
        · subst h2 h3
          have hm0 : m1 = 0 := by rw [← HPI.out.2.2.2.2.2.1, h1]; rfl
          have hd0 : dd = 0 := by have := HDD.out; omega
          subst hm0 hd0
          have HL0 := Lib.hid h1
          clear h1
          go_wp2_with (at_builtin; refine Held.on ?_)
          refine held_append rfl (.tmp 70) (.tmp 77) 65 65 rfl 0 5 _ 1 1 Tryd.underlying65 (.inl Tryd.underlying65) u8info rfl (by omega) (xs := vs (hsW kd L ++ body.take cu)) (ys := []) (m := 0) rfl rfl HO8.out ⟨rfl, by simp, .inl ⟨_, _, rfl, .inl rfl⟩⟩ HKK.out.1 HKK.out.2 (Nat.zero_le _) ?_
          intro O9 co9 w9 hO hg hor
          have HF := Lib.hid (HFIN.out O9 co9 _ w9 (by rw [HL0.out]; exact hO) hg hor)
          clear hO hg hor
          go_wp2_with fail
          go_meet
          case rel => exact ⟨_, _, _, rfl, HF⟩
        · subst h1
          have HRD := Lib.hid (And.intro h2 h3)
          have i1 : dd ≤ m1 := HDD.out.1
          have i2 : m1 ≤ rc := h2
          have i3 : (dd : Int) ≤ (m1 : Int) := by omega
          have i4 : (m1 : Int) ≤ (rc : Int) := by omega
          clear h2 h3
          by_cases hrd : rc = dd
          · have HZ0 : Hid (m1 - dd = 0 ∧ rl.drop dd = []) := Lib.hid ⟨by omega, List.drop_eq_nil_of_le (by have := HPI.out.2.2.2.2.2.1; omega)⟩
            go_wp2_with (at_builtin; refine Held.on ?_)
            refine held_append rfl (.tmp 70) (.tmp 77) 65 65 rfl 0 5 _ 1 1 Tryd.underlying65 (.inl Tryd.underlying65) u8info rfl (by omega) (xs := vs (hsW kd L ++ body.take cu)) (ys := vs (rl.drop dd)) (m := m1 - dd) rfl rfl HO8.out ⟨by rw [vs_length, HZ0.out.2, HZ0.out.1]; rfl, vs_one _, .inl ⟨_, _, rfl, .inl (by rw [HZ0.out.2]; rfl)⟩⟩ HKK.out.1 HKK.out.2 (Nat.zero_le _) ?_
            intro O9 co9 w9 hO hg hor
            have HF := Lib.hid (HFIN.out O9 co9 _ w9 hO hg hor)
            clear hO hg hor
            go_wp2_with fail
            go_meet
            case rel => exact ⟨_, _, _, rfl, HF⟩
          · have HLD : Hid ((rl.drop dd).length = m1 - dd) := Lib.hid (by rw [List.length_drop, HPI.out.2.2.2.2.2.1])
            go_wp2_with (at_builtin; refine Held.on ?_)
            refine held_append rfl (.tmp 70) (.tmp 77) 65 65 rfl 0 5 _ 1 1 Tryd.underlying65 (.inl Tryd.underlying65) u8info rfl (by omega) (xs := vs (hsW kd L ++ body.take cu)) (ys := vs (rl.drop dd)) (m := m1 - dd) rfl rfl HO8.out ⟨by rw [vs_length, HLD.out, Nat.mul_one], vs_one _, .inl ⟨_, _, rfl, Rd.from_ HRD.out.2 dd⟩⟩ HKK.out.1 HKK.out.2 (Nat.zero_le _) ?_
            intro O9 co9 w9 hO hg hor
            have HF := Lib.hid (HFIN.out O9 co9 _ w9 hO hg hor)
            clear hO hg hor
            go_wp2_with fail
            go_meet
            case rel => exact ⟨_, _, _, rfl, HF⟩
      case rest =>
        obtain ⟨O2, k2, co2, rfl, HZ⟩ := hcut
        generalize wc = w10 at *
        have k0 : w10.cell? ⟨p11, 0, none⟩ = some (.int .u32 (o1 : Nat)) := (HZ.out.2.2.2.2.2.cell 0).trans rfl
        have k1 : w10.cell? ⟨p11, 1, none⟩ = some (.slice rA m1 rc) := (HZ.out.2.2.2.2.2.cell 1).trans rfl
        clear e1
        go_upto_region 15 with (fail)
        go_wp2_with fail
        refine (HEN.out w10).mono ?_
        rintro e w11 ⟨rfl, hb11⟩
        have HB11 := Lib.hid hb11
        clear hb11
        have hk := HZ.out.2.2.2.2.2.keep HB11.out
        have hff := HZ.out.2.2.2.2.1.keep HB11.out
        obtain ⟨y1, hy1⟩ : ∃ y1, bytesOf (R.drop j) = y1 := ⟨_, rfl⟩
        obtain ⟨y2, hy2⟩ : ∃ y2, bytesOf (R.drop (j + 1)) = y2 := ⟨_, rfl⟩
        rw [hy1] at hff
        have hyy : y1 = m1 + y2 := by rw [← hy1, ← hy2]; exact HPI.out.2.2.1
        have e2 : (y1 : Int) - (m1 : Int) = (y2 : Int) := by omega
        have HY := Lib.hid (And.intro hy2 hff)
        have HWY : Hid (wrap64 (y2 : Int) = (y2 : Int) ∧ IntKind.i64.wrap (y2 : Int) = (y2 : Int)) := Lib.hid (by
          have := HSZ.out.1
          rw [hy1] at this
          exact ⟨w64_all y2 (by omega), i64_nat y2 (by omega)⟩)
        have q1 : w11.drew.cell? ⟨p11, 1, none⟩ = some (.slice rA m1 rc) := (hk.cell 1).trans rfl
        have q2 : w11.drew.cell? ⟨f, 2, none⟩ = some (.int .i64 (y1 : Nat)) := (hff.cell 2).trans (by simp [fbRow])
        have q3 : w11.drew.frozen? ⟨f, 2, none⟩ = false := hff.frozen 2
        have HTD := Lib.hid (Tch.drew w11)
        clear hk hff hy1 hy2 hyy k0 k1
        obtain ⟨w1, w2⟩ := HWY.out
        go_upto_region 16 with (fail)
        refine wp_region_still_tail 10 (by kernel_rfl) (by kernel_rfl) ?_
        simp only [List.take_succ_cons, List.take_zero, List.drop_succ_cons, List.drop_zero]
        change wpStill _ _ (World.drew w11) (fun a => wpList _ _ _ _ a (World.drew w11)) _ _
        generalize World.drew w11 = w12 at *
        repeat still_step
        refine wpStill_nil ?_
        have HPN : Hid (PopM w (w12.setCell ⟨f, 2, none⟩ (.int .i64 (y2 : Nat))) f m g n kd L body R O2 k2 co2 (j + 1)) := by
          obtain ⟨h1, h2, h3, h4, h5, h6⟩ := HZ.out
          have ht : Tch [] w10 w12 := (Tch.below HB11.out []).trans HTD.out
          have hts := Tch.set w12 f 2 (.int .i64 (y2 : Nat))
          have hfl := HM.out.2.1.lt
          refine Lib.hid ⟨?_, h2, h3, (h4.trans (ht.more (by simp))).trans hts, ?_⟩
          · rw [HPI.out.2.1]
            exact (h1.tch ht (h2.away (by simp))).tch hts (h2.away (by simp; exact hfl))
          · have h := (HY.out.2.tch HTD.out (by simp)).set_ 2 (.int .i64 (y2 : Nat))
            rw [HY.out.1]
            exact h
        have HCN := Lib.hid HPI.out.2.1
        have jw : wrap64 ((j : Int) + 1) = (j : Int) + 1 := w64_inc HLT.out (by have := HN1.out; omega)
        go_wp2_with fail
        have hlt := HLT.out
        go_roundw
        case rel => exact ⟨j + 1, k2, co2, O2, hlt, by first | (rw [jw]; go_num) | go_num, rfl, by rw [HCN.out], HPN⟩
        case measure => first | exact t_measD hlt | (rw [jw]; exact t_measD hlt)
    · obtain rfl : j = n := by omega
      have t1 : ¬ j < j := Nat.lt_irrefl _
      have hM := HX7.out wr HI.out.tch
      have HML := Lib.hid hM.len
      have y3 : wr.drew.cell? ⟨f, 3, none⟩ = some (.int .i64 (j : Nat)) := (HI.out.fb.cell 3).trans (by simp [fbRow])
      have g0 : wr.drew.cell? ⟨g, 0, none⟩ = some (.slice E j c) := (hM.fr.cell 0).trans (by simp [frRow])
      have f3 : wr.drew.frozen? ⟨f, 3, none⟩ = false := HI.out.fb.frozen 3
      have HTD := Lib.hid (Tch.drew wr)
      have e0 : (j : Int) - (j : Int) = 0 := by omega
      clear hM
      go_upto_region 18 with (fail)
      refine wp_region_still_tail 12 (by kernel_rfl) (by kernel_rfl) ?_
      simp only [List.take_succ_cons, List.take_zero, List.drop_succ_cons, List.drop_zero]
      change wpStill _ _ (World.drew wr) (fun a => wpList _ _ _ _ a (World.drew wr)) _ _
      generalize World.drew wr = w12 at *
      repeat still_step
      refine wpStill_nil ?_
      go_upto_region 19 with (fail)
      have ht13 := (HTD.out.more (M := [f]) (by simp)).trans (Tch.set w12 f 3 (.int .i64 0))
      have HF13 : Hid (Blk (w12.setCell ⟨f, 3, none⟩ (.int .i64 0)) f 105 (fbRow m 0 (bytesOf (R.drop j) : Nat) 0)) := Lib.hid (by
        have h := (HI.out.fb.tch HTD.out (by simp)).set_ 3 (.int .i64 0)
        exact h)
      have HT13 := Lib.hid (HI.out.tch.trans ht13)
      have HOW13 : Hid (Own (w12.setCell ⟨f, 3, none⟩ (.int .i64 0)) 0 1 O k co (vs (hsW kd L ++ body.take (curs R j)))) := Lib.hid (HI.out.own.tch ht13 (HI.out.hi.away (by have := HM.out.2.1.lt; simp; exact this)))
      clear ht13 y3 g0 f3 e0
      generalize w12.setCell ⟨f, 3, none⟩ (.int .i64 0) = w13 at *
      have HCA13 : Hid (Cache w13.drew m 1 (some g)) := Lib.hid (HM.out.2.2.tch (HT13.out.trans ((Tch.drew w13).more (by simp))) (by have := HN.out.2.2.2.2.2.1; simp; exact fun e => this e.symm))
      have x0 : w13.drew.cell? ⟨f, 0, none⟩ = some (.map (some m)) := (HF13.out.cell 0).trans (by simp [fbRow])
      have x1 : w13.drew.cell? ⟨f, 1, none⟩ = some (.int .u16 0) := (HF13.out.cell 1).trans (by simp [fbRow])
      have HTD13 := Lib.hid (Tch.drew w13)
      refine wp_region_still_tail 8 (by kernel_rfl) (by kernel_rfl) ?_
      simp only [List.take_succ_cons, List.take_zero, List.drop_succ_cons, List.drop_zero]
      change wpStill _ _ (World.drew w13) (fun a => wpList _ _ _ _ a (World.drew w13)) _ _
      generalize World.drew w13 = w14 at *
      repeat still_step
      refine wpStill_nil ?_
      go_wp2_with (with_reducible refine Held.deleteB ?_)
      refine held_cdrop rfl _ _ rfl m 1 (some g) rfl rfl HCA13.out ?_
      intro w15 hc15 ht15
      have ht15' : Tch [m] w13 w15 := (HTD13.out.more (by simp)).trans ht15
      have hf15 := HF13.out.tch ht15' (by have := HN.out.2.2.2.2.2.1; simp; exact this)
      have x1 : w15.cell? ⟨f, 1, none⟩ = some (.int .u16 0) := (hf15.cell 1).trans (by simp [fbRow])
      have f1 := hf15.frozen 1
      have HF15 := Lib.hid hf15
      have HC15 := Lib.hid hc15
      have HT15 := Lib.hid ht15'
      clear x0 hc15 ht15 ht15' hf15
      go_upto_region 21 with (fail)
      have ts := Tch.set w15 f 1 (.int .u16 1)
      have hfg : f ∉ foot g E ++ D := HN.out.2.2.2.2.2.2.1
      have hmg : m ∉ foot g E ++ D := HN.out.2.2.2.2.2.2.2
      have HFIN : Hid (Tch (f :: m :: (foot g E ++ D)) w (w15.setCell ⟨f, 1, none⟩ (.int .u16 1)) ∧ Blk (w15.setCell ⟨f, 1, none⟩ (.int .u16 1)) f 105 (fbRow m 1 (bytesOf (R.drop j) : Nat) 0) ∧ Cache (w15.setCell ⟨f, 1, none⟩ (.int .u16 1)) m 1 none ∧ MsgM (w15.setCell ⟨f, 1, none⟩ (.int .u16 1)) body kd ep ps g E D j c L R (some fl) ∧ Own (w15.setCell ⟨f, 1, none⟩ (.int .u16 1)) 0 1 O k co (vs (hsW kd L ++ body.take (curs R j)))) := by
        have h1 : Tch [f, m] w15 (w15.setCell ⟨f, 1, none⟩ (.int .u16 1)) := ts.more (by simp)
        have h2 : Tch [f, m] w13 w15 := HT15.out.more (by simp)
        have h3 : Tch [f, m] w w13 := HT13.out.more (by simp)
        have hfl := HM.out.2.1.lt
        have hml := HM.out.2.2.lt
        refine Lib.hid ⟨((h3.trans h2).trans h1).more (by simp), HF15.out.set_ 1 (.int .u16 1), HC15.out.tch ts (by have := HN.out.2.2.2.2.2.1; simp; exact fun e => this e.symm), HM.out.1.tch ((h3.trans h2).trans h1) ?_, (HOW13.out.tch HT15.out (HI.out.hi.away (by simp; exact hml))).tch ts (HI.out.hi.away (by simp; exact hfl))⟩
        intro q hq
        simp at hq
        rcases hq with rfl | rfl
        · exact ⟨fun h => hfg (List.mem_append.2 (.inl h)), fun h => hfg (List.mem_append.2 (.inr h))⟩
        · exact ⟨fun h => hmg (List.mem_append.2 (.inl h)), fun h => hmg (List.mem_append.2 (.inr h))⟩
      clear ts hfg hmg x1 f1
      generalize w15.setCell ⟨f, 1, none⟩ (.int .u16 1) = w16 at *
      have g9 : w16.cell? ⟨g, 9, none⟩ = some (.int .u16 (ep : Nat)) := (HFIN.out.2.2.2.1.fr.cell 9).trans (by simp [frRow, restRow])
      go_quiet (fail)
      have HB17 := Lib.hid (below_drewN (Below.refl w16.heap.size w16) nq)
      clear g9
      generalize w16.drewN nq = w17 at *
      go_wp2_with fail
      first | go_ret2 | go_ret
      have hce := curs_end HM.out.1.kept HN.out.2.2.2.2.1
      rw [HML.out, HN.out.1] at hce
      have hbt : body.take L = body := List.take_of_length_le (by rw [HN.out.1]; exact Nat.le_refl _)
      have ho := HFIN.out.2.2.2.2
      rw [hce, hbt] at ho
      have hk : k = 12 + body.length := by
        have h := ho.1
        rw [vs_length, List.length_append, Nat.mul_one, show (hsW kd L).length = 12 from rfl] at h
        omega
      rcases HI.out.hi with h | ⟨bo, hbo, hbs⟩
      · exact absurd h HI.out.ne
      · subst hbo hk
        refine ⟨bo, co, rfl, hbs, ?_, ⟨m, 1, rfl, HN.out.2.2.2.2.2.1, ⟨_, _, HFIN.out.2.1.keep HB17.out⟩, HFIN.out.2.2.1.tch (Tch.below HB17.out []) (by simp)⟩, HFIN.out.1.trans (Tch.below HB17.out _)⟩
        rw [HN.out.1]
        exact (ho.rd).keep HB17.out
end Go.Proofs.YtadblfnggmaadaaDoor
