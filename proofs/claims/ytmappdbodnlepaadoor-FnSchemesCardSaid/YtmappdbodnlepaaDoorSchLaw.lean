/- Walks: the law of all signature schemes. -/
import Derived.Test.YtmappdbodnlepaaDoorSchB
namespace Go.Proofs.YtmappdbodnlepaaDoor
open Go.RowKit Go.Cv
set_option maxRecDepth 100000
set_option linter.unusedVariables false
def sch : List (Nat × Nat) := [(4, 3), (5, 3), (6, 3), (8, 7), (4, 2052), (5, 2053), (6, 2054), (4, 1), (5, 1), (6, 1)]
theorem schs_any (b : Bool) (w : World) : Calls Tryd.prog 21 #[.bool b] w fun e w' => ∃ a c', e = .returned (.slice (some ⟨a, 0, none⟩) 10 c') ∧ Rd w' (some ⟨a, 0, none⟩) (pv sch) ∧ Below w.heap.size w w' := by
  have H1 := Lib.hid algs10
  have H2 := Lib.hid algs13
  have HP := Lib.hid (fun b w hr => pairsData_any b 0 10 10 sch rfl (by omega) (by omega) w hr)
  cases b
  · go_enter Tryd.func21, Tryd.ntmps21
    go_wp2_with fail
    refine (H1.out _).mono ?_
    rintro e w1 ⟨rfl, hr, hb⟩
    have HC := Lib.hid (HP.out _ w1 hr)
    clear hr
    go_wp2_with fail
    refine HC.out.mono ?_
    rintro e w2 ⟨a, c', rfl, hr, _, hb2⟩
    have hb3 := below_two hb hb2
    clear hb hb2
    go_wp2_with fail
    go_ret
    exact ⟨a, c', rfl, hr, hb3⟩
  · go_enter Tryd.func21, Tryd.ntmps21
    go_wp2_with fail
    refine (H2.out _).mono ?_
    rintro e w1 ⟨rfl, hr, hb⟩
    have HC := Lib.hid (HP.out _ w1 hr)
    clear hr
    go_wp2_with fail
    refine HC.out.mono ?_
    rintro e w2 ⟨a, c', rfl, hr, _, hb2⟩
    have hb3 := below_two hb hb2
    clear hb hb2
    go_wp2_with fail
    go_ret
    exact ⟨a, c', rfl, hr, hb3⟩
/-- How many have RSA-PSS. -/
def pc (zs : List (Nat × Nat)) : Nat := (zs.filter fun p => decide (2052 ≤ p.2)).length
theorem pc_next {zs : List (Nat × Nat)} {j h s : Nat} (hv : zs[j]? = some (h, s)) : pc (zs.take (j + 1)) = pc (zs.take j) + if 2052 ≤ s then 1 else 0 := by
  obtain ⟨hl, he⟩ := List.getElem?_eq_some_iff.1 hv
  rw [List.take_succ_eq_append_getElem hl, he]
  unfold pc
  rw [List.filter_append]
  by_cases h2 : 2052 ≤ s <;> simp [h2]
theorem pc_le (zs : List (Nat × Nat)) : pc zs ≤ zs.length := List.length_filter_le _ _
set_option maxHeartbeats 2000000 in
theorem schLaw (w : World) : Calls Tryd.prog 7 #[] w fun e w' => e = .returned (.bool true) ∧ Below w.heap.size w w' := by
  have HS := Lib.hid schs_any
  obtain ⟨zs, hzs⟩ : ∃ zs, sch = zs := ⟨_, rfl⟩
  have hlen : zs.length = 10 := by rw [← hzs]; rfl
  have hok : ∀ p ∈ zs, OkP p.1 p.2 := by rw [← hzs]; unfold OkP; decide
  have hpc : pc zs = 3 := by rw [← hzs]; decide
  rw [hzs] at HS
  have HL := Lib.hid hlen
  have HOK := Lib.hid hok
  have HPC := Lib.hid hpc
  clear hzs hlen hok hpc
  go_enter Tryd.func7, Tryd.ntmps7
  go_wp2_with fail
  refine (HS.out false _).mono ?_
  rintro e w1 ⟨a1, c1, rfl, hr1, hb1⟩
  have HR1 := Lib.hid hr1
  have HB1 := Lib.hid hb1
  clear hr1 hb1
  go_wp2_with fail
  refine (HS.out true _).mono ?_
  rintro e w2 ⟨a2, c2, rfl, hr2, hb2⟩
  have HR2 := Lib.hid hr2
  have HR12 := Lib.hid (HR1.out.keep hb2)
  have HB2 := Lib.hid (below_two HB1.out hb2)
  clear hr2 hb2 HS HR1 HB1
  go_wp2_with fail
  go_loopw [3, 17] (fun v i wr => ∃ j : Nat, j ≤ 10 ∧ i = .int .i64 j ∧ v = .int .i64 (pc (zs.take j)) ∧ Below w2.heap.size w2 wr) (fun _ i _ => 10 - (intOf i).toNat)
  case atStart => exact ⟨0, Nat.zero_le _, rfl, rfl, Below.refl _ _⟩
  case round =>
    obtain ⟨j, hj, rfl, rfl, hbr⟩ := hrel
    have HBR := Lib.hid hbr
    clear hbr
    by_cases hlt : j < 10
    · obtain ⟨⟨h, s⟩, hv⟩ : ∃ p, zs[j]? = some p := ⟨_, List.getElem?_eq_getElem (by rw [HL.out]; exact hlt)⟩
      have ok := HOK.out (h, s) (List.mem_of_getElem? hv)
      obtain ⟨k0, k1⟩ := pairCell (HR2.out.keep HBR.out) j h s hv
      simp only [Nat.zero_add] at k0 k1
      obtain ⟨x, y, hxy, hval⟩ := be2_bytes (code h s) ok.code_lt
      have HW := Lib.hid (fun w => schWrite_any h s ok w)
      have HRd := Lib.hid (fun w => schRead_any h s ok w)
      have HSm := Lib.hid (fun w => small2 x y w)
      have hcl := ok.code_lt
      obtain ⟨cd, hcd⟩ : ∃ n, code h s = n := ⟨_, rfl⟩
      rw [hxy] at HW
      rw [hval] at HSm
      rw [hcd] at HSm HRd hcl
      have t1 : decide ((j : Int) < 10) = true := by simp; omega
      have t2 : (j : Int) < 10 := by omega
      have e1 : IntKind.u16.wrap (cd : Int) = (cd : Int) := by rw [IntKind.wrap_u16]; omega
      obtain ⟨pj, hpj⟩ : ∃ n, pc (zs.take j) = n := ⟨_, rfl⟩
      have hpl : pj ≤ 10 := by rw [← hpj]; exact Nat.le_trans (pc_le _) (by rw [List.length_take, HL.out]; omega)
      have HN := Lib.hid (pc_next hv)
      have HV := Lib.hid hv
      rw [hpj] at HN ⊢
      have OK := Lib.hid ok
      have J1 : IntKind.i64.wrap ((j : Int) + 1) = (j : Int) + 1 := by rw [IntKind.wrap_i64]; omega
      have J2 : IntKind.i64.wrap ((pj : Int) + 1) = (pj : Int) + 1 := by rw [IntKind.wrap_i64]; omega
      clear hv ok hxy hval hcd hcl hpj
      go_wp2_with fail
      refine (HW.out _).mono ?_
      rintro e w3 ⟨rfl, hb3⟩
      have HK3 := Lib.hid ((Blk.new wr 33 #[.int .u16 (h : Int), .int .u16 (s : Int)]).keep hb3)
      have HB3 := Lib.hid (below_two HBR.out (below_two (below_alloc wr _) hb3))
      clear hb3 k0 k1 HW
      go_wp2_with fail
      refine (HSm.out _).mono ?_
      rintro e w4 ⟨rfl, rfl⟩
      go_wp2_with fail
      refine (HRd.out _).mono ?_
      rintro e w4 ⟨rfl, hb4⟩
      have hk4 := HK3.out.keep hb4
      have HB4 := Lib.hid (below_two HB3.out hb4)
      have k0 := (hk4.cell 0).trans (rfl : _ = some (Value.int .u16 (h : Int)))
      have k1 := (hk4.cell 1).trans (rfl : _ = some (Value.int .u16 (s : Int)))
      have kl := hk4.lt
      clear hb4 hk4 HK3 HB3 HSm HRd
      rcases OK.out.split with ⟨hs, _⟩ | ⟨hs, _⟩
      · have HPS := Lib.hid (fun w => pss_no s (by omega) w)
        have HS1 : Hid (¬ 2052 ≤ s) := Lib.hid (by omega)
        clear hs
        go_wp2_with fail
        refine (HPS.out _).mono ?_
        rintro e w5 ⟨rfl, hb5⟩
        go_wp2_with fail
        subst hb5
        have hbE := below_two HB4.out (below_alloc w4 (.cells #[.int .u16 (h : Int), .int .u16 (s : Int)] 33))
        have HBE := Lib.hid hbE
        clear hbE k0 k1 kl
        go_roundw
        case rel => exact ⟨j + 1, by omega, by go_num, by rw [HN.out, if_neg HS1.out, Nat.add_zero], HBE.out⟩
        case measure => simp [intOf]; omega
      · have HPS := Lib.hid (fun w => pss_yes s hs w)
        have HS1 : Hid (2052 ≤ s) := Lib.hid (by omega)
        clear hs
        go_wp2_with fail
        refine (HPS.out _).mono ?_
        rintro e w5 ⟨rfl, hb5⟩
        go_wp2_with fail
        subst hb5
        have hbE := below_two HB4.out (below_alloc w4 (.cells #[.int .u16 (h : Int), .int .u16 (s : Int)] 33))
        have HBE := Lib.hid hbE
        clear hbE k0 k1 kl
        go_roundw
        case rel => exact ⟨j + 1, by omega, by go_num, by rw [HN.out, if_pos HS1.out]; go_num, HBE.out⟩
        case measure => simp [intOf]; omega
    · obtain rfl : j = 10 := by omega
      have hE : pc (zs.take 10) = 3 := by rw [List.take_of_length_le (by rw [HL.out]; exact Nat.le_refl _)]; exact HPC.out
      rw [hE]
      have HB := Lib.hid (below_two HB2.out HBR.out)
      have HR3 := Lib.hid (HR2.out.keep HBR.out)
      have HR13 := Lib.hid (HR12.out.keep HBR.out)
      clear hE HBR HR2 HR12 HB2 HPC
      go_wp2_with fail
      obtain ⟨wL, rfl⟩ : ∃ x, x = wr := ⟨_, rfl⟩
      go_loopw [47] (fun i wo => ∃ j : Nat, j ≤ 10 ∧ i = .int .i64 j ∧ Below wL.heap.size wL wo) (fun i _ => 10 - (intOf i).toNat)
      case atStart => exact ⟨0, Nat.zero_le _, rfl, Below.refl _ _⟩
      case round =>
        obtain ⟨j, hj, rfl, hbo⟩ := hrel
        have HBO := Lib.hid hbo
        clear hbo
        by_cases hlt : j < 10
        · obtain ⟨⟨h, s⟩, hv⟩ : ∃ p, zs[j]? = some p := ⟨_, List.getElem?_eq_getElem (by rw [HL.out]; exact hlt)⟩
          obtain ⟨k0, k1⟩ := pairCell (HR13.out.keep HBO.out) j h s hv
          simp only [Nat.zero_add] at k0 k1
          have HV := Lib.hid hv
          have t1 : decide ((j : Int) < 10) = true := by simp; omega
          have t2 : (j : Int) < 10 := by omega
          have J1 : IntKind.i64.wrap ((j : Int) + 1) = (j : Int) + 1 := by rw [IntKind.wrap_i64]; omega
          clear hv
          go_wp2_with fail
          have hbi := below_alloc wr (.cells #[.int .u16 (h : Int), .int .u16 (s : Int)] 33)
          have HKi := Lib.hid (Blk.new wr 33 #[.int .u16 (h : Int), .int .u16 (s : Int)])
          have HBi := Lib.hid (below_two HBO.out hbi)
          obtain ⟨wo, hwo⟩ : ∃ x, wr.heap.size = x := ⟨_, rfl⟩
          rw [hwo] at HKi ⊢
          clear k0 k1 hbi HBO hwo
          generalize wr.alloc (.cells #[.int .u16 (h : Int), .int .u16 (s : Int)] 33) = wi at *
          go_loopw [10, 53] (fun v i wq => ∃ k : Nat, k ≤ 10 ∧ i = .int .i64 k ∧ v = .bool (decide ((h, s) ∈ zs.take k)) ∧ Below wi.heap.size wi wq) (fun _ i _ => 10 - (intOf i).toNat)
          case atStart => exact ⟨0, Nat.zero_le _, rfl, by simp, Below.refl _ _⟩
          case round =>
            obtain ⟨k, hk, rfl, rfl, hbq⟩ := hrel
            have HBQ := Lib.hid hbq
            clear hbq
            by_cases hlt2 : k < 10
            · obtain ⟨⟨h2, s2⟩, hv2⟩ : ∃ p, zs[k]? = some p := ⟨_, List.getElem?_eq_getElem (by rw [HL.out]; exact hlt2)⟩
              obtain ⟨q0, q1⟩ := pairCell ((HR3.out.keep HBi.out).keep HBQ.out) k h2 s2 hv2
              simp only [Nat.zero_add] at q0 q1
              have hkq := HKi.out.keep HBQ.out
              have p0 := (hkq.cell 0).trans (rfl : _ = some (Value.int .u16 (h : Int)))
              have p1 := (hkq.cell 1).trans (rfl : _ = some (Value.int .u16 (s : Int)))
              have pl := hkq.lt
              have u1 : decide ((k : Int) < 10) = true := by simp; omega
              have u2 : (k : Int) < 10 := by omega
              have J2 : IntKind.i64.wrap ((k : Int) + 1) = (k : Int) + 1 := by rw [IntKind.wrap_i64]; omega
              have HN2 : Hid (decide ((h, s) ∈ zs.take (k + 1)) = (decide ((h, s) ∈ zs.take k) || (decide (h = h2) && decide (s = s2)))) := Lib.hid (by
                obtain ⟨hl, he⟩ := List.getElem?_eq_some_iff.1 hv2
                rw [List.take_succ_eq_append_getElem hl, he]
                simp [Bool.decide_and, Bool.decide_or])
              clear hv2 hkq
              obtain ⟨d, hd⟩ : ∃ d, decide ((h, s) ∈ zs.take k) = d := ⟨_, rfl⟩
              rw [hd] at HN2 ⊢
              clear hd
              cases d with
              | true =>
                go_wp2_with fail
                clear q0 q1 p0 p1 pl
                go_roundw
                case rel => exact ⟨k + 1, by omega, by go_num, by rw [HN2.out]; rfl, below_two HBQ.out (below_alloc _ _)⟩
                case measure => simp [intOf]; omega
              | false =>
                by_cases hh : h = h2
                · subst hh
                  by_cases hs : s = s2
                  · subst hs
                    go_wp2_with fail
                    clear q0 q1 p0 p1 pl
                    go_roundw
                    case rel => exact ⟨k + 1, by omega, by go_num, by rw [HN2.out]; simp, below_two HBQ.out (below_alloc _ _)⟩
                    case measure => simp [intOf]; omega
                  · have n1 : ((s : Int) == (s2 : Int)) = false := by simp; omega
                    have n2 : ¬ (s : Int) = (s2 : Int) := by omega
                    go_wp2_with fail
                    clear q0 q1 p0 p1 pl
                    go_roundw
                    case rel => exact ⟨k + 1, by omega, by go_num, by rw [HN2.out]; simp [hs], below_two HBQ.out (below_alloc _ _)⟩
                    case measure => simp [intOf]; omega
                · have n1 : ((h : Int) == (h2 : Int)) = false := by simp; omega
                  have n2 : ¬ (h : Int) = (h2 : Int) := by omega
                  go_wp2_with fail
                  clear q0 q1 p0 p1 pl
                  go_roundw
                  case rel => exact ⟨k + 1, by omega, by go_num, by rw [HN2.out]; simp [hh], below_two HBQ.out (below_alloc _ _)⟩
                  case measure => simp [intOf]; omega
            · obtain rfl : k = 10 := by omega
              have hE : decide ((h, s) ∈ zs.take 10) = true := by
                rw [List.take_of_length_le (by rw [HL.out]; exact Nat.le_refl _)]
                simpa using List.mem_of_getElem? HV.out
              rw [hE]
              clear hE
              have HBE := Lib.hid (below_two HBi.out HBQ.out)
              clear HBQ HKi HBi
              go_wp2_with fail
              go_roundw
              case rel => exact ⟨j + 1, by omega, by go_num, HBE.out⟩
              case measure => simp [intOf]; omega
        · obtain rfl : j = 10 := by omega
          have HBE := Lib.hid (below_two HB.out HBO.out)
          clear HBO HB HR3 HR13
          go_wp2_with fail
          go_ret
          exact ⟨rfl, HBE.out⟩
theorem sch_row (w : World) {p q : Prop} (ad0 : Addr) (g0 : p) (ad1 : Addr) (g1 : q) : Calls Tryd.prog 7 #[] w fun e w' => e = .returned (.bool true) ∧ Below w.heap.size w w' := schLaw w
end Go.Proofs.YtmappdbodnlepaaDoor
