/- Walks: whether a message's pieces lie within it and cover it, and are few. -/
import Derived.Test.YtadblfnggmaadaaDoorFgU
namespace Go.Proofs.YtadblfnggmaadaaDoor
open Go.RowKit Go.Cv
set_option maxRecDepth 100000
set_option linter.unusedVariables false
theorem boolinf : (Tryd.prog.info? 4).map (fun i => (i.zero, i.size, i.bytes)) = some (some (.bool false), 1, 1) := by kernel_rfl
def castP (p : Nat × Nat) : Int × Int := ((p.1 : Int), (p.2 : Int))
/-- Pieces are right: those of pn. -/
def Right (ps : List (Int × Int)) (L : Nat) (pn : List (Nat × Nat)) : Prop := ps = pn.map castP ∧ ∀ p ∈ pn, p.1 ≤ p.2 ∧ p.2 ≤ L ∧ (p.1 = p.2 → L = 0)
/-- Pieces are right, few, and cover a message. -/
def CovOk (ps : List (Int × Int)) (L : Nat) : Prop := L ≤ 3000 ∧ ps.length ≤ 60 ∧ 0 < ps.length ∧ ∃ pn, Right ps L pn ∧ ∀ k, k < L → CovP pn k
def CovPost (ps : List (Int × Int)) (L : Nat) (w : World) (e : Ending) (w' : World) : Prop := ∃ d : Bool, e = .returned (.bool d) ∧ Hid (d = true → CovOk ps L) ∧ Below w.heap.size w w'
theorem right_nil (L : Nat) : Right [] L [] := ⟨rfl, fun p h => by simp at h⟩
theorem right_snoc {ps : List (Int × Int)} {L : Nat} {pn : List (Nat × Nat)} (h : Right ps L pn) {a z : Nat} (h1 : a ≤ z) (h2 : z ≤ L) (h3 : a = z → L = 0) : Right (ps ++ [((a : Int), (z : Int))]) L (pn ++ [(a, z)]) := by
  refine ⟨by rw [h.1, List.map_append]; rfl, fun p hp => ?_⟩
  rcases List.mem_append.1 hp with hp | hp
  · exact h.2 p hp
  · simp at hp; subst hp; exact ⟨h1, h2, h3⟩
theorem covP_snoc (pn : List (Nat × Nat)) (a z k : Nat) : CovP (pn ++ [(a, z)]) k ↔ (CovP pn k ∨ (a ≤ k ∧ k < z)) := by
  constructor
  · rintro ⟨p, hp, h⟩
    rcases List.mem_append.1 hp with hp | hp
    · exact .inl ⟨p, hp, h⟩
    · simp at hp; subst hp; exact .inr h
  · rintro (⟨p, hp, h⟩ | h)
    · exact ⟨p, List.mem_append.2 (.inl hp), h⟩
    · exact ⟨(a, z), by simp, h⟩
theorem ms_more {P : Prop} {a s k : Nat} (h : a ≤ s) : ((P ∨ (a ≤ k ∧ k < s)) ∨ k = s) ↔ (P ∨ (a ≤ k ∧ k < s + 1)) := by
  constructor
  · rintro ((h1 | h1) | h1)
    · exact .inl h1
    · exact .inr (by omega)
    · exact .inr (by omega)
  · rintro (h1 | h1)
    · exact .inl (.inl h1)
    · rcases Nat.lt_or_ge k s with h2 | h2
      · exact .inl (.inr ⟨h1.1, h2⟩)
      · exact .inr (by omega)
set_option maxHeartbeats 4000000 in
theorem covered_any (k0 : Int) (body : List UInt8) (A : Option Addr) (n c L : Nat) (ps : List (Int × Int)) (hL : body.length = L) (hn : ps.length = n) (w : World) (hr : Rd w A (rowsOf ipv ps)) :
    Calls Tryd.prog 10 #[.agg #[.int .u8 k0, .string (S body), .slice A n c]] w fun e w' => CovPost ps L w e w' := by
  have z0 : (S body).size = L := by rw [S_size, hL]
  have HR := Lib.hid hr
  have HN := Lib.hid hn
  clear hL hr hn
  by_cases h4 : (3000 : Int) < (L : Int)
  · have t4 : decide ((3000 : Int) < (L : Int)) = true := by simpa using h4
    clear h4
    go_enter Tryd.func10, Tryd.ntmps10
    go_wp2_with fail
    go_ret
    exact (show CovPost _ _ _ _ _ from ⟨_, rfl, Lib.hid (fun h => by cases h), below_alloc _ _⟩)
  have t4 : decide ((3000 : Int) < (L : Int)) = false := by simpa using h4
  have hL2 : L ≤ 3000 := by omega
  clear h4
  by_cases h5 : (60 : Int) < (n : Int)
  · have t5 : decide ((60 : Int) < (n : Int)) = true := by simpa using h5
    clear h5 hL2
    go_enter Tryd.func10, Tryd.ntmps10
    go_wp2_with fail
    go_ret
    exact (show CovPost _ _ _ _ _ from ⟨_, rfl, Lib.hid (fun h => by cases h), below_alloc _ _⟩)
  have t5 : decide ((60 : Int) < (n : Int)) = false := by simpa using h5
  have hn60 : n ≤ 60 := by omega
  have HB := Lib.hid (And.intro hL2 hn60)
  clear h5 hL2 hn60
  go_enter Tryd.func10, Tryd.ntmps10
  go_upto_region 1 with (fail)
  have hb1 := below_alloc w (.cells #[.int .u8 k0, .string (S body), .slice A n c] 41)
  have hk1 := Blk.new w 41 #[.int .u8 k0, .string (S body), .slice A n c]
  obtain ⟨p, hp⟩ : ∃ p, w.heap.size = p := ⟨_, rfl⟩
  simp only [hp] at hk1 ⊢
  have HP : Hid (w.heap.size ≤ p) := Lib.hid (by omega)
  have HB1 := Lib.hid (And.intro hb1 hk1)
  clear hb1 hk1 hp
  generalize w.alloc (.cells #[.int .u8 k0, .string (S body), .slice A n c] 41) = w1 at *
  have q1 : w1.cell? ⟨p, 1, none⟩ = some (.string (S body)) := (HB1.out.2.cell 1).trans rfl
  have q2 : w1.cell? ⟨p, 2, none⟩ = some (.slice A n c) := (HB1.out.2.cell 2).trans rfl
  go_wp2_with fail
  refine upon_make 32 4 (.bool false) 1 Tryd.underlying32 boolinf rfl L L rfl rfl (Nat.le_refl _) (by have := HB.out; omega) (by have := HB.out; simp only [maxLen]; omega) ?_
  intro w2 hO2 hb2 hs2
  rw [bv_false] at hO2
  obtain ⟨g, hg⟩ : ∃ g, w1.heap.size = g := ⟨_, rfl⟩
  rw [hg] at hO2 ⊢
  have HG : Hid (w.heap.size ≤ g ∧ p < g) := Lib.hid (by have := HB1.out.1.size; have := HB1.out.2.lt; omega)
  have HK2 := Lib.hid (HB1.out.2.keep hb2)
  have HM2 : Hid (Below w.heap.size w w2 ∧ Blk w2 p 41 #[.int .u8 k0, .string (S body), .slice A n c] ∧ ∃ pn cm, Right (ps.take 0) L pn ∧ Ms (CovP pn) L cm ∧ Own w2 0 1 (some ⟨g, 0, none⟩) L L (bv cm)) := Lib.hid ⟨below_two HB1.out.1 hb2, HK2.out, [], _, right_nil L, Ms.none L _ (fun k ⟨p, hp, _⟩ => by simp at hp), hO2.lower (Nat.zero_le _)⟩
  have q2 : w2.cell? ⟨p, 2, none⟩ = some (.slice A n c) := (HK2.out.cell 2).trans rfl
  clear hO2 hb2 hs2 hg q1 t4 t5
  go_wp2_with fail
  clear q2
  go_loopw [26] (fun x wr => ∃ j : Nat, j ≤ n ∧ x = .int .i64 (j : Nat) ∧ Hid (Below w.heap.size w wr ∧ Blk wr p 41 #[.int .u8 k0, .string (S body), .slice A n c] ∧ ∃ pn cm, Right (ps.take j) L pn ∧ Ms (CovP pn) L cm ∧ Own wr 0 1 (some ⟨g, 0, none⟩) L L (bv cm))) (fun x _ => n - (intOf x).toNat)
  case atStart => exact ⟨0, Nat.zero_le _, rfl, HM2⟩
  case round =>
    obtain ⟨j, hj, rfl, HM⟩ := hrel
    by_cases hlt : j < n
    · obtain ⟨zz, hz⟩ : ∃ z, ps[j]? = some z := ⟨_, List.getElem?_eq_getElem (by rw [HN.out]; exact hlt)⟩
      have hne : rowsOf ipv ps ≠ [] := fun h => by
        have := congrArg List.length h
        rw [rowsOf_length ipv 2 ipv_length, HN.out] at this; simp at this; omega
      obtain ⟨b1, o1, rfl, _⟩ := HR.out.resolve_left hne
      obtain ⟨za, zb⟩ := zz
      have c0 := rowsCell ipv_length (HR.out.keep HM.out.1) j _ hz 0 (by omega) _ rfl
      have c1 := rowsCell ipv_length (HR.out.keep HM.out.1) j _ hz 1 (by omega) _ rfl
      rw [Nat.add_zero] at c0
      have jn : (j : Int) < n := by omega
      have HZ := Lib.hid (And.intro hz hlt)
      clear hz hne hlt
      go_upto_region 7 with (fail)
      have hb3 := below_alloc wr (.cells #[.int .i64 za, .int .i64 zb] 26)
      have hk3 := Blk.new wr 26 #[.int .i64 za, .int .i64 zb]
      obtain ⟨q, hq⟩ : ∃ q, wr.heap.size = q := ⟨_, rfl⟩
      rw [hq] at hk3
      simp only [hq]
      obtain ⟨pn, cm, hpn, hms, how⟩ := HM.out.2.2
      have HM3 := Lib.hid (And.intro (below_two HM.out.1 hb3) (And.intro (HM.out.2.1.keep hb3) (And.intro hk3 (And.intro hpn (And.intro hms (how.keep hb3))))))
      have HPQ : Hid (p < q ∧ (0 < L → g < q)) := Lib.hid ⟨by have := HM.out.2.1.lt; omega, fun h0 => by have h := own_loS how (by omega) (by omega) g rfl; omega⟩
      clear hb3 hk3 c0 c1 hpn hms how HM hq
      generalize wr.alloc (.cells #[.int .i64 za, .int .i64 zb] 26) = w3 at *
      have k0' : w3.cell? ⟨q, 0, none⟩ = some (.int .i64 za) := (HM3.out.2.2.1.cell 0).trans rfl
      have k1 : w3.cell? ⟨q, 1, none⟩ = some (.int .i64 zb) := (HM3.out.2.2.1.cell 1).trans rfl
      have q1 : w3.cell? ⟨p, 1, none⟩ = some (.string (S body)) := (HM3.out.2.1.cell 1).trans rfl
      go_cut [60] (fun x wx => wx = w3 ∧ ∃ d : Bool, x = .bool d ∧ Hid (d = false → 0 ≤ za ∧ za ≤ zb ∧ zb ≤ L ∧ (za = zb → L = 0)))
      case first =>
        obtain ⟨d1, h1⟩ : ∃ d, decide (za < 0) = d := ⟨_, rfl⟩
        obtain ⟨d2, h2⟩ : ∃ d, decide (zb < za) = d := ⟨_, rfl⟩
        obtain ⟨d3, h3⟩ : ∃ d, decide ((L : Int) < zb) = d := ⟨_, rfl⟩
        cases d1
        case true => go_wp2_with fail; go_meet; case rel => exact ⟨rfl, _, rfl, Lib.hid fun h => by cases h⟩
        case false =>
        cases d2
        case true => go_wp2_with fail; go_meet; case rel => exact ⟨rfl, _, rfl, Lib.hid fun h => by cases h⟩
        case false =>
        cases d3
        case true => go_wp2_with fail; go_meet; case rel => exact ⟨rfl, _, rfl, Lib.hid fun h => by cases h⟩
        case false =>
        have HO3 : Hid (0 ≤ za ∧ za ≤ zb ∧ zb ≤ L) := Lib.hid (by simp at h1 h2 h3; omega)
        by_cases he : za = zb
        · subst he
          by_cases hl0 : L = 0
          · have HL0 := Lib.hid hl0
            have hl1 : decide ((0 : Int) < (L : Int)) = false := by simp; omega
            have hl2 : decide (0 < L) = false := by simp; omega
            clear hl0
            go_wp2_with fail
            go_meet
            case rel => exact ⟨rfl, _, rfl, Lib.hid fun _ => ⟨HO3.out.1, HO3.out.2.1, HO3.out.2.2, fun _ => HL0.out⟩⟩
          · have hl1 : decide ((0 : Int) < (L : Int)) = true := by simp; omega
            have hl2 : decide (0 < L) = true := by simp; omega
            go_wp2_with fail
            go_meet
            case rel => exact ⟨rfl, _, rfl, Lib.hid fun h => by cases h⟩
        · have HE := Lib.hid he
          go_wp2_with fail
          go_meet
          case rel => exact ⟨rfl, _, rfl, Lib.hid fun _ => ⟨HO3.out.1, HO3.out.2.1, HO3.out.2.2, fun h => absurd h HE.out⟩⟩
      case rest =>
        obtain ⟨hwc, d, rfl, HD⟩ := hcut
        subst hwc
        cases d
        case true =>
          go_wp2_with fail
          go_ret
          exact (show CovPost _ _ _ _ _ from ⟨_, rfl, Lib.hid (fun h => by cases h), HM3.out.1⟩)
        case false =>
        obtain ⟨g1, g2, g3, g4⟩ := HD.out rfl
        obtain ⟨a, rfl⟩ : ∃ a : Nat, za = (a : Int) := ⟨za.toNat, by omega⟩
        obtain ⟨b, rfl⟩ : ∃ b : Nat, zb = (b : Int) := ⟨zb.toNat, by omega⟩
        have HAB : Hid (a ≤ b ∧ b ≤ L ∧ (a = b → L = 0)) := Lib.hid ⟨by omega, by omega, fun h => g4 (by rw [h])⟩
        clear g1 g2 g3 g4 HD q1 k1
        go_wp2_with fail
        clear k0'
        go_loopw [6] (fun x wr => ∃ k : Nat, a ≤ k ∧ k ≤ b ∧ x = .int .i64 (k : Nat) ∧ Hid (Below w.heap.size w wr ∧ Blk wr p 41 #[.int .u8 k0, .string (S body), .slice (some ⟨b1, o1, none⟩) n c] ∧ Blk wr q 26 #[.int .i64 (a : Nat), .int .i64 (b : Nat)] ∧ ∃ cm, Ms (fun i => CovP pn i ∨ (a ≤ i ∧ i < k)) L cm ∧ Own wr 0 1 (some ⟨g, 0, none⟩) L L (bv cm))) (fun x _ => b - (intOf x).toNat)
        case atStart => exact ⟨a, Nat.le_refl _, HAB.out.1, rfl, Lib.hid ⟨HM3.out.1, HM3.out.2.1, HM3.out.2.2.1, cm, HM3.out.2.2.2.2.1.to (fun i _ => ⟨.inl, fun h => h.elim id (fun h => by omega)⟩), HM3.out.2.2.2.2.2⟩⟩
        case round =>
          obtain ⟨k, hak, hkb, rfl, HJ⟩ := hrel
          have r1 : wr.cell? ⟨q, 1, none⟩ = some (.int .i64 (b : Nat)) := (HJ.out.2.2.1.cell 1).trans rfl
          by_cases hlk : k < b
          · obtain ⟨cm1, hm1, ho1⟩ := HJ.out.2.2.2
            have hkL : k < L := by have := HAB.out; omega
            obtain ⟨y0, y1⟩ := own_bv ho1 k hkL
            have k1 : (k : Int) < L := by omega
            have k2 : (k : Int) < b := by omega
            have jw : wrap64 ((k : Int) + 1) = (k : Int) + 1 := w64_inc hlk (by have := HAB.out; have := HB.out; omega)
            have HN2 : Hid (Below w.heap.size w (wr.setCell ⟨g, k, none⟩ (.bool true)) ∧ Blk (wr.setCell ⟨g, k, none⟩ (.bool true)) p 41 #[.int .u8 k0, .string (S body), .slice (some ⟨b1, o1, none⟩) n c] ∧ Blk (wr.setCell ⟨g, k, none⟩ (.bool true)) q 26 #[.int .i64 (a : Nat), .int .i64 (b : Nat)] ∧ ∃ cm, Ms (fun i => CovP pn i ∨ (a ≤ i ∧ i < k + 1)) L cm ∧ Own (wr.setCell ⟨g, k, none⟩ (.bool true)) 0 1 (some ⟨g, 0, none⟩) L L (bv cm)) := Lib.hid ⟨HJ.out.1.setCell HG.out.1 _, HJ.out.2.1.tch (Tch.set wr g k _) (by have := HG.out; simp; omega), HJ.out.2.2.1.tch (Tch.set wr g k _) (by have := HPQ.out.2 (by omega); simp; omega), _, (hm1.set k hkL).to (fun i _ => ms_more hak), own_bv_set ho1 k true hkL⟩
            clear hm1 ho1 hkL
            go_wp2_with fail
            go_roundw
            case rel => exact ⟨k + 1, by omega, hlk, by first | (rw [jw]; go_num) | go_num, HN2⟩
            case measure => first | exact t_measD hlk | (rw [jw]; exact t_measD hlk)
          · obtain rfl : k = b := by omega
            have t1 : ¬ k < k := Nat.lt_irrefl _
            have HMS : Hid (∃ pn cm, Right (ps.take (j + 1)) L pn ∧ Ms (CovP pn) L cm ∧ Own wr 0 1 (some ⟨g, 0, none⟩) L L (bv cm)) := by
              obtain ⟨cm1, hm1, ho1⟩ := HJ.out.2.2.2
              refine Lib.hid ⟨pn ++ [(a, k)], cm1, ?_, hm1.to (fun i _ => (covP_snoc pn a k i).symm), ho1⟩
              rw [List.take_add_one, HZ.out.1]
              exact right_snoc HM3.out.2.2.2.1 HAB.out.1 HAB.out.2.1 HAB.out.2.2
            have jw : wrap64 ((j : Int) + 1) = (j : Int) + 1 := w64_inc HZ.out.2 (by have := HB.out; omega)
            have hlt := HZ.out.2
            clear hlk hak hkb
            go_wp2_with fail
            go_roundw
            case rel => exact ⟨j + 1, hlt, by first | (rw [jw]; go_num) | go_num, Lib.hid ⟨HJ.out.1, HJ.out.2.1, HMS.out⟩⟩
            case measure => first | exact t_measD hlt | (rw [jw]; exact t_measD hlt)
    · obtain rfl : j = n := by omega
      have t1 : ¬ j < j := Nat.lt_irrefl _
      obtain ⟨pn, cm, hpn, hms, how⟩ := HM.out.2.2
      have HX := Lib.hid (And.intro hpn (And.intro hms how))
      clear hpn hms how hlt
      go_wp2_with fail
      go_loopw [75] (fun x wx => wx = wr ∧ ∃ i : Nat, i ≤ L ∧ x = .int .i64 (i : Nat) ∧ Hid (∀ k, k < i → CovP pn k)) (fun x _ => L - (intOf x).toNat)
      case atStart => exact ⟨rfl, 0, Nat.zero_le _, rfl, Lib.hid (fun k h => by omega)⟩
      case round =>
        obtain ⟨rfl, i, hi, rfl, HI⟩ := hrel
        by_cases hli : i < L
        · obtain ⟨y0, y1⟩ := own_bv HX.out.2.2 i hli
          have hiff := HX.out.2.1.iff i hli
          obtain ⟨d, hd⟩ : ∃ d, cm.getD i false = d := ⟨_, rfl⟩
          rw [hd] at y0 hiff
          have i1 : (i : Int) < L := by omega
          have HIF := Lib.hid hiff
          clear hiff hd
          cases d
          case false =>
            go_wp2_with fail
            go_ret
            exact (show CovPost _ _ _ _ _ from ⟨_, rfl, Lib.hid (fun h => by cases h), HM.out.1⟩)
          case true =>
            have jw : wrap64 ((i : Int) + 1) = (i : Int) + 1 := w64_inc hli (by have := HB.out; omega)
            go_wp2_with fail
            go_roundw
            case rel => exact ⟨by first | rfl | trivial, i + 1, hli, by first | (rw [jw]; go_num) | go_num, Lib.hid fun k hk => by
              rcases Nat.lt_or_ge k i with h | h
              · exact HI.out k h
              · have : k = i := by omega
                subst this
                exact HIF.out.1 rfl⟩
            case measure => first | exact t_measD hli | (rw [jw]; exact t_measD hli)
        · obtain rfl : i = L := by omega
          have t2 : ¬ i < i := Nat.lt_irrefl _
          have q2 : wr.cell? ⟨p, 2, none⟩ = some (.slice A j c) := (HM.out.2.1.cell 2).trans rfl
          have HFIN : Hid (0 < j → CovOk ps i) := Lib.hid fun h0 => by
            have h1 := HX.out.1
            rw [List.take_of_length_le (by rw [HN.out]; exact Nat.le_refl _)] at h1
            exact ⟨HB.out.1, by rw [HN.out]; exact HB.out.2, by rw [HN.out]; exact h0, pn, h1, HI.out⟩
          clear hli
          rcases Nat.eq_zero_or_pos j with h0 | h0
          · subst h0
            go_wp2_with fail
            go_ret
            exact (show CovPost _ _ _ _ _ from ⟨_, rfl, Lib.hid (fun h => by cases h), HM.out.1⟩)
          · have h1 : decide ((0 : Int) < (j : Int)) = true := by simp; omega
            have h2 : decide (0 < j) = true := by simp; omega
            have H0 := Lib.hid h0
            go_wp2_with fail
            go_ret
            exact (show CovPost _ _ _ _ _ from ⟨_, rfl, Lib.hid (fun _ => HFIN.out H0.out), HM.out.1⟩)
end Go.Proofs.YtadblfnggmaadaaDoor
