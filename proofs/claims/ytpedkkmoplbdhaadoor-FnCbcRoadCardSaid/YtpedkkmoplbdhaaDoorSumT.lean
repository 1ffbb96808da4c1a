/- Walks: the stand-in hash of the library. -/
import Derived.Test.YtpedkkmoplbdhaaDoorBase
import Derived.LoopTactic
import Derived.Outline
import Derived.StillTailTactics
import Derived.Laws.BitsAllLaws
import Derived.Test.YtpedkkmoplbdhaaDoorProg
namespace Go.Proofs.YtpedkkmoplbdhaaDoor
open Go.RowKit Go.Cv
set_option maxRecDepth 100000
set_option linter.unusedVariables false
theorem t_and7 (k : Nat) (h : k < 64) : bits .and .i64 (k : Int) 7 = ((k % 8 : Nat) : Int) := by
  have : ∀ q : Fin 64, bits .and .i64 ((q.val : Nat) : Int) 7 = ((q.val % 8 : Nat) : Int) := by decide
  exact this ⟨k, h⟩
theorem t_u8info : (Tryd.prog.info? 5).map (fun i => (i.zero, i.size, i.bytes)) = some (some (.int .u8 0), 1, 1) := by kernel_rfl
theorem t_size (k : Nat) (h : k < 64) (w : World) : Calls Tryd.prog 142 #[.int .i64 (k : Nat)] w fun e w' => e = .returned (.int .i64 (toySize k : Nat)) ∧ w = w' := by
  have e1 := t_and7 k h
  obtain ⟨q, hq⟩ : ∃ q, k % 8 = q := ⟨_, rfl⟩
  have hq8 : q < 8 := by omega
  have e2 : (4 : Int) + 4 * (q : Int) = (toySize k : Nat) := by rw [toySize, hq]; push_cast; rfl
  rw [hq] at e1
  have HE := Lib.hid e2
  clear h e2 hq
  go_enter Tryd.func142, Tryd.ntmps142
  go_wp2_with fail
  go_ret
  exact ⟨by rw [← HE.out]; rfl, rfl⟩
theorem t_meas {j n : Nat} (h : j < n) : n - (intOf (Value.int .i64 ((j : Int) + 1))).toNat < n - (intOf (Value.int .i64 (j : Int))).toNat := by simp [intOf]; omega
set_option maxHeartbeats 4000000 in
theorem t_sum (kind : Nat) (l : List UInt8) (hk : kind < 64) (hl : l.length ≤ 1000000) (w : World) :
    Calls Tryd.prog 141 #[.int .i64 (kind : Nat), .string (S l)] w fun e w' => e = .returned (.string (S (toySum kind l))) ∧ Below w.heap.size w w' := by
  have hs := toySize_le kind
  have HSZ := Lib.hid (t_size kind hk w)
  obtain ⟨n, hn⟩ : ∃ n, toySize kind = n := ⟨_, rfl⟩
  rw [hn] at HSZ hs
  have hn4 := hs.1
  have hn32 := hs.2
  have h3 : (S l).size = l.length := S_size l
  have HT : Hid (toySum kind l = (sumB n kind l (2 * n)).map UInt8.ofNat) := Lib.hid (by rw [toySum, hn])
  obtain ⟨len, hlen⟩ : ∃ q, l.length = q := ⟨_, rfl⟩
  rw [hlen] at h3 hl
  have HLEN := Lib.hid hlen
  clear hs hn hlen
  go_enter Tryd.func141, Tryd.ntmps141
  go_wp2_with fail
  refine HSZ.out.mono ?_
  rintro e w1 ⟨rfl, rfl⟩
  go_wp2_with fail
  refine upon_make 51 5 (.int .u8 0) 1 Tryd.underlying51 t_u8info rfl n n rfl rfl (Nat.le_refl _) (by omega) (by simp only [maxLen]; omega) ?_
  intro w1 hown hb hsz
  rw [← nv_zero] at hown
  have HO0 : Hid (Own w1 w.heap.size 1 (some ⟨w.heap.size, 0, none⟩) n n (nv (sumFirst n kind len 0))) := Lib.hid (by simpa [sumFirst] using hown)
  have HB0 := Lib.hid hb
  obtain ⟨r, hr⟩ : ∃ r, w.heap.size = r := ⟨_, rfl⟩
  rw [hr] at HO0
  simp only [hr]
  have HRR := Lib.hid hr
  clear hown hb hsz hr HSZ
  go_wp2_with fail
  go_loopw [7] (fun i wr => ∃ j : Nat, j ≤ n ∧ i = .int .i64 j ∧ Hid (Own wr r 1 (some ⟨r, 0, none⟩) n n (nv (sumFirst n kind len j))) ∧ Hid (Below w.heap.size w wr)) (fun i _ => n - (intOf i).toNat)
  case atStart => exact ⟨0, Nat.zero_le _, rfl, HO0, HB0⟩
  case round =>
    obtain ⟨j, hj, rfl, HO, HB⟩ := hrel
    by_cases hlt : j < n
    · obtain ⟨_, f0⟩ := own_nv HO.out (sumFirst_length _ _ _ _ hj) j hlt
      obtain ⟨c0, _⟩ := own_nv HO.out (sumFirst_length _ _ _ _ hj) j hlt
      have e1 : IntKind.u8.wrap (7 * (j : Int) + kind + len) = (((7 * j + kind + len) % 256 : Nat) : Int) := by exact first_u8 j kind len
      obtain ⟨v, hv⟩ : ∃ v, (7 * j + kind + len) % 256 = v := ⟨_, rfl⟩
      rw [hv] at e1
      have HV := Lib.hid hv
      have jw := w64_inc hlt (by omega)
      clear hv
      go_wp2_with fail
      go_roundw
      case rel => exact ⟨j + 1, hlt, by first | (rw [jw]; go_num) | go_num, Lib.hid (by rw [← sumFirst_step n kind len j hlt, HV.out]; exact own_nv_set HO.out j v hlt), Lib.hid (HB.out.setCell (p := ⟨r, j, none⟩) (by rw [HRR.out]; exact Nat.le_refl _) _)⟩
      case measure => first | exact t_meas hlt | (rw [jw]; exact t_meas hlt)
    · obtain rfl : n = j := by omega
      have HOA : Hid (Own wr r 1 (some ⟨r, 0, none⟩) n n (nv (sumA n kind l 0))) := Lib.hid (by rw [sumA, HLEN.out]; exact HO.out)
      have n0 : ((n : Int) == 0) = false := by simp; omega
      have n0' : ¬ n = 0 := by omega
      have wn := i64_nat n (by omega)
      clear HO hj hlt HO0 HB0
      go_wp2_with fail
      go_loopw [8] (fun i wr => ∃ j : Nat, j ≤ len ∧ i = .int .i64 j ∧ Hid (Own wr r 1 (some ⟨r, 0, none⟩) n n (nv (sumA n kind l j))) ∧ Hid (Below w.heap.size w wr)) (fun i _ => len - (intOf i).toNat)
      case atStart => exact ⟨0, Nat.zero_le _, rfl, HOA, HB⟩
      case round =>
        obtain ⟨j, hj, rfl, HO, HB⟩ := hrel
        by_cases hlt : j < len
        · obtain ⟨st, hst⟩ : ∃ st, sumA n kind l j = st := ⟨_, rfl⟩
          have hsl := sumA_length n kind l j
          have hsm := sumA_small n kind l j
          have hnx : sumA n kind l (j + 1) = st.set (j % n) (mixA (st.getD (j % n) 0) (l.getD j 0).toNat (st.getD ((j % n + 1) % n) 0) j) := by rw [sumA, hst]
          rw [hst] at hsl hsm HO
          obtain ⟨a, ha⟩ : ∃ a, j % n = a := ⟨_, rfl⟩
          obtain ⟨a1, ha1⟩ : ∃ a1, a + 1 = a1 := ⟨_, rfl⟩
          obtain ⟨b, hb⟩ : ∃ b, a1 % n = b := ⟨_, rfl⟩
          rw [ha, ha1, hb] at hnx
          have han : a < n := by rw [← ha]; exact Nat.mod_lt _ (by omega)
          have hbn : b < n := by rw [← hb]; exact Nat.mod_lt _ (by omega)
          obtain ⟨x0, fa⟩ := own_nv HO.out hsl a han
          obtain ⟨y0, _⟩ := own_nv HO.out hsl b hbn
          have hx := getD_lt hsm (by omega) a
          have hy := getD_lt hsm (by omega) b
          have hc := (l.getD j 0).toNat_lt
          obtain ⟨x, hxe⟩ : ∃ x, st.getD a 0 = x := ⟨_, rfl⟩
          obtain ⟨y, hye⟩ : ∃ y, st.getD b 0 = y := ⟨_, rfl⟩
          obtain ⟨c, hce⟩ : ∃ c, (l.getD j 0).toNat = c := ⟨_, rfl⟩
          have hix := fun w' => run_index_S (P := Tryd.prog) w' 9 Tryd.underlying9 l .i64 j j rfl (by rw [HLEN.out]; exact hlt)
          rw [hce] at hix hc hnx
          rw [hxe] at x0 hx hnx
          rw [hye] at y0 hy hnx
          obtain ⟨v1, hv1⟩ : ∃ v, (x + c) % 256 = v := ⟨_, rfl⟩
          obtain ⟨v2, hv2⟩ : ∃ v, v1 * 29 % 256 = v := ⟨_, rfl⟩
          obtain ⟨v3, hv3⟩ : ∃ v, v2 ^^^ y = v := ⟨_, rfl⟩
          obtain ⟨v4, hv4⟩ : ∃ v, j % 256 = v := ⟨_, rfl⟩
          obtain ⟨v5, hv5⟩ : ∃ v, (v3 + v4) % 256 = v := ⟨_, rfl⟩
          have hv2l : v2 < 256 := by rw [← hv2]; exact Nat.mod_lt _ (by omega)
          have hai : (a : Int) < n := by omega
          have hbi : (b : Int) < n := by omega
          have a1l : a1 < 4294967296 := by omega
          have al : a < 4294967296 := by omega
          have bl : b < 4294967296 := by omega
          have lenl : len ≤ 4294967296 := by omega
          have hm : mixA x c y j = v5 := by rw [mixA, hv1, hv2, hv3, hv4, hv5]
          rw [hm] at hnx
          have e1 : IntKind.u8.wrap ((x : Int) + c) = (v1 : Int) := by rw [u8_add, hv1]
          have e2 : IntKind.u8.wrap ((v1 : Int) * 29) = (v2 : Int) := by rw [u8_mul29, hv2]
          have e3 : bits .xor .u8 (v2 : Int) (y : Int) = (v3 : Int) := by rw [← hv3]; exact u8_xor_nat v2 y hv2l hy
          have e4 : IntKind.u8.wrap (j : Int) = (v4 : Int) := by rw [u8_nat, hv4]
          have e5 : IntKind.u8.wrap ((v3 : Int) + v4) = (v5 : Int) := by rw [u8_add, hv5]
          have m1 : (j : Int) % n = (a : Int) := by rw [mod_nat, ha]
          have m2 : (j : Int).tmod n = (a : Int) := by rw [tmod_nat, ha]
          have m3 := i64_nat a1 a1l
          have m4 := cast_inc a a1 ha1
          have m5 : (a1 : Int) % n = (b : Int) := by rw [mod_nat, hb]
          have m6 : (a1 : Int).tmod n = (b : Int) := by rw [tmod_nat, hb]
          have m7 := i64_nat b bl
          have m8 := i64_nat a al
          have jw := w64_inc hlt lenl
          have HNX := Lib.hid hnx
          have HOD : Hid (Own wr.drew r 1 (some ⟨r, 0, none⟩) n n (nv st)) := HO
          have HBD := Lib.hid (HB.out.drew)
          have x0 : wr.drew.cell? ⟨r, a, none⟩ = some (.int .u8 (x : Nat)) := x0
          have y0 : wr.drew.cell? ⟨r, b, none⟩ = some (.int .u8 (y : Nat)) := y0
          have fa : wr.drew.frozen? ⟨r, a, none⟩ = false := fa
          clear hst hsl hsm hnx ha ha1 hb hx hy hc hxe hye hce hv1 hv2 hv3 hv4 hv5 hm HO HB
          go_wp2_with fail
          refine wp_region_still_tail 23 (by kernel_rfl) (by kernel_rfl) ?_
          simp only [List.take_succ_cons, List.take_zero, List.drop_succ_cons, List.drop_zero]
          change wpStill _ _ (World.drew wr) (fun a => wpList _ _ _ _ a (World.drew wr)) _ _
          generalize World.drew wr = wd at *
          repeat still_step
          refine wpStill_nil ?_
          clear e1 e2 e3 e4 e5 m1 m2 m3 m4 m5 m6 m7 m8 jw hix y0
          go_wp2_with fail
          go_roundw
          case rel => exact ⟨j + 1, hlt, by go_num, Lib.hid (by rw [HNX.out]; exact own_nv_set HOD.out a v5 han), Lib.hid (HBD.out.setCell (p := ⟨r, a, none⟩) (by rw [HRR.out]; exact Nat.le_refl _) _)⟩
          case measure => exact t_meas hlt
        · obtain rfl : len = j := Nat.le_antisymm (Nat.le_of_not_lt hlt) hj
          have HOB : Hid (Own wr r 1 (some ⟨r, 0, none⟩) n n (nv (sumB n kind l 0))) := Lib.hid (by rw [sumB, HLEN.out]; exact HO.out)
          have n2 := w64_two n hn32
          clear HO hj hlt HOA
          go_wp2_with fail
          go_loopw [10] (fun i wr => ∃ j : Nat, j ≤ 2 * n ∧ i = .int .i64 j ∧ Hid (Own wr r 1 (some ⟨r, 0, none⟩) n n (nv (sumB n kind l j))) ∧ Hid (Below w.heap.size w wr)) (fun i _ => 2 * n - (intOf i).toNat)
          case atStart => exact ⟨0, Nat.zero_le _, rfl, HOB, HB⟩
          case round =>
            obtain ⟨j, hj, rfl, HO, HB⟩ := hrel
            by_cases hlt : j < 2 * n
            · obtain ⟨st, hst⟩ : ∃ st, sumB n kind l j = st := ⟨_, rfl⟩
              have hsl := sumB_length n kind l j
              have hsm := sumB_small n kind l j
              have hnx : sumB n kind l (j + 1) = st.set (j % n) (mixB (st.getD (j % n) 0) (st.getD ((j % n + n - 1) % n) 0) j) := by rw [sumB, hst]
              rw [hst] at hsl hsm HO
              obtain ⟨a, ha⟩ : ∃ a, j % n = a := ⟨_, rfl⟩
              obtain ⟨a1, ha1⟩ : ∃ a1, a + n = a1 := ⟨_, rfl⟩
              obtain ⟨a2, ha2⟩ : ∃ a2, a1 - 1 = a2 := ⟨_, rfl⟩
              obtain ⟨b, hb⟩ : ∃ b, a2 % n = b := ⟨_, rfl⟩
              rw [ha, ha1, ha2, hb] at hnx
              have han : a < n := by rw [← ha]; exact Nat.mod_lt _ (by omega)
              have hbn : b < n := by rw [← hb]; exact Nat.mod_lt _ (by omega)
              obtain ⟨x0, fa⟩ := own_nv HO.out hsl a han
              obtain ⟨y0, _⟩ := own_nv HO.out hsl b hbn
              have hx := getD_lt hsm (by omega) a
              have hy := getD_lt hsm (by omega) b
              obtain ⟨x, hxe⟩ : ∃ x, st.getD a 0 = x := ⟨_, rfl⟩
              obtain ⟨y, hye⟩ : ∃ y, st.getD b 0 = y := ⟨_, rfl⟩
              rw [hxe] at x0 hx hnx
              rw [hye] at y0 hy hnx
              obtain ⟨v1, hv1⟩ : ∃ v, x * 13 % 256 = v := ⟨_, rfl⟩
              obtain ⟨v2, hv2⟩ : ∃ v, (v1 + y) % 256 = v := ⟨_, rfl⟩
              obtain ⟨v4, hv4⟩ : ∃ v, j % 256 = v := ⟨_, rfl⟩
              obtain ⟨v5, hv5⟩ : ∃ v, (v2 + v4) % 256 = v := ⟨_, rfl⟩
              have hai : (a : Int) < n := by omega
              have hbi : (b : Int) < n := by omega
              have a1l : a1 < 4294967296 := by omega
              have a2l : a2 < 4294967296 := by omega
              have a10 : 0 < a1 := by omega
              have al : a < 4294967296 := by omega
              have bl : b < 4294967296 := by omega
              have nl : 2 * n ≤ 4294967296 := by omega
              have hm : mixB x y j = v5 := by rw [mixB, hv1, hv2, hv4, hv5]
              rw [hm] at hnx
              have e1 : IntKind.u8.wrap ((x : Int) * 13) = (v1 : Int) := by rw [u8_mul13, hv1]
              have e2 : IntKind.u8.wrap ((v1 : Int) + y) = (v2 : Int) := by rw [u8_add, hv2]
              have e4 : IntKind.u8.wrap (j : Int) = (v4 : Int) := by rw [u8_nat, hv4]
              have e5 : IntKind.u8.wrap ((v2 : Int) + v4) = (v5 : Int) := by rw [u8_add, hv5]
              have m1 : (j : Int) % n = (a : Int) := by rw [mod_nat, ha]
              have m2 : (j : Int).tmod n = (a : Int) := by rw [tmod_nat, ha]
              have m3 := i64_nat a1 a1l
              have m4 := cast_add a n a1 ha1
              have m9 := cast_dec a1 a2 ha2 a10
              have m10 := i64_nat a2 a2l
              have m5 : (a2 : Int) % n = (b : Int) := by rw [mod_nat, hb]
              have m6 : (a2 : Int).tmod n = (b : Int) := by rw [tmod_nat, hb]
              have m7 := i64_nat b bl
              have m8 := i64_nat a al
              have jw := w64_inc hlt nl
              obtain ⟨tj, tj'⟩ := lt_two hlt
              have HNX := Lib.hid hnx
              have HOD : Hid (Own wr.drew r 1 (some ⟨r, 0, none⟩) n n (nv st)) := HO
              have HBD := Lib.hid (HB.out.drew)
              have x0 : wr.drew.cell? ⟨r, a, none⟩ = some (.int .u8 (x : Nat)) := x0
              have y0 : wr.drew.cell? ⟨r, b, none⟩ = some (.int .u8 (y : Nat)) := y0
              have fa : wr.drew.frozen? ⟨r, a, none⟩ = false := fa
              clear hst hsl hsm hnx ha ha1 ha2 hb hx hy hxe hye hv1 hv2 hv4 hv5 hm HO HB
              go_wp2_with fail
              refine wp_region_still_tail 21 (by kernel_rfl) (by kernel_rfl) ?_
              simp only [List.take_succ_cons, List.take_zero, List.drop_succ_cons, List.drop_zero]
              change wpStill _ _ (World.drew wr) (fun a => wpList _ _ _ _ a (World.drew wr)) _ _
              generalize World.drew wr = wd at *
              repeat still_step
              refine wpStill_nil ?_
              clear e1 e2 e4 e5 m1 m2 m3 m4 m5 m6 m7 m8 m9 m10 jw y0
              go_wp2_with fail
              go_roundw
              case rel => exact ⟨j + 1, hlt, by go_num, Lib.hid (by rw [HNX.out]; exact own_nv_set HOD.out a v5 han), Lib.hid (HBD.out.setCell (p := ⟨r, a, none⟩) (by rw [HRR.out]; exact Nat.le_refl _) _)⟩
              case measure => exact t_meas hlt
            · obtain rfl : j = 2 * n := Nat.le_antisymm hj (Nat.le_of_not_lt hlt)
              have hn2 : decide (((2 * n : Nat) : Int) < 2 * (n : Int)) = false := by simp
              have hrd := HO.out.rd
              rw [nv_vs _ (sumB_small n kind l (2 * n)), ← HT.out] at hrd
              have HRD := Lib.hid hrd
              have HTL : Hid ((toySum kind l).length = n) := Lib.hid (by rw [HT.out, List.length_map, sumB_length])
              clear hrd HO
              go_wp2_with fail
              refine upon_conv_bs 51 9 5 Tryd.underlying51 Tryd.underlying5 Tryd.underlying9 (toySum kind l) (some ⟨r, 0, none⟩) n n HTL.out HRD.out ?_
              go_wp2_with fail
              go_ret
              exact ⟨rfl, HB.out⟩
end Go.Proofs.YtpedkkmoplbdhaaDoor
