/- Walks: the law that both ways to cut a datagram agree. -/
import Derived.Test.YtkcacppcendhmaaDoorDgmC
import Derived.Test.YtkcacppcendhmaaDoorDgmLaw
namespace Go.Proofs.YtkcacppcendhmaaDoor
open Go.RowKit Go.Cv
set_option maxRecDepth 100000
set_option linter.unusedVariables false
theorem dgt_big (l : List UInt8) (h1 : decide ((2147483647 : Int) < l.length) = true) (w : World) :
    Calls Tryd.prog 4 #[.string (S l)] w fun e w' => e = .returned (.bool true) ∧ Below w.heap.size w w' := by
  have h3 : (S l).size = l.length := S_size l
  go_enter Tryd.func4, Tryd.ntmps4
  go_wp2_with fail
  go_ret
  exact ⟨rfl, Below.refl _ _⟩
def oneRec : List UInt8 := headOf 23 254 253 1 (7 &&& 281474976710655) [(120 : UInt8)].length [] ++ [120]
theorem oneRec_is : IsRec oneRec := rec_of 23 254 253 1 _ [120] (by simp) (by simp)
theorem oneRec_len : oneRec.length ≤ 2147483647 := by
  have : oneRec.length = 14 := by simp [oneRec, head_len]
  omega
theorem oneRec_cut : Cut oneRec [oneRec] := by
  have := cut_recs [oneRec] (by intro r hr; simp at hr; rw [hr]; exact oneRec_is)
  simpa using this
theorem dgt_one (w : World) :
    Calls Tryd.prog 6 #[.int .u8 23, .int .u16 1, .int .u64 7, .string { data := #[] }, .string { data := #[120] }] w fun e w' => e = .returned (.string (S oneRec)) ∧ Below w.heap.size w w' :=
  framed_any 23 1 7 [120] (by simp) (by omega) (by omega) (by omega) w
set_option maxHeartbeats 2000000 in
theorem dgt_any (l : List UInt8) (h1 : decide ((2147483647 : Int) < l.length) = false) (w : World) (ad : Addr)
    (hg : w.cell? ⟨0, 0, none⟩ = some (.iface 52 (.pointer (some ad)))) :
    Calls Tryd.prog 4 #[.string (S l)] w fun e w' => e = .returned (.bool true) ∧ Below w.heap.size w w' := by
  have h3 : (S l).size = l.length := S_size l
  have hn : l.length ≤ 2147483647 := by simp at h1; omega
  have HN := Lib.hid hn
  have HG := Lib.hid hg
  clear hn hg
  go_enter Tryd.func4, Tryd.ntmps4
  go_wp2_with fail
  refine (datagram_any l HN.out w ad HG.out).mono ?_
  rintro e w1 (⟨zs, A, k, c, rfl, p1, p2, p3, p4, p5⟩ | ⟨rfl, p4, p5⟩)
  · have P1 := Lib.hid p1
    have P2 := Lib.hid p2
    have P3 := Lib.hid p3
    have P4 := Lib.hid p4
    have P5 := Lib.hid p5
    clear p1 p2 p3 p4 p5
    go_wp2_with fail
    refine (datagramC_any l HN.out w1 ad (keep_of_below P5.out _ _ HG.out)).mono ?_
    rintro e w2 (⟨zs2, B, k2, c2, rfl, q1, q2, q3, q4, q5⟩ | ⟨rfl, q4, q5⟩)
    · have e2 : zs = zs2 := (q4 zs).1 ((P4.out zs).2 rfl)
      subst e2
      have Q1 := Lib.hid q1
      have Q3 := Lib.hid q3
      have Q5 := Lib.hid q5
      clear q1 q2 q3 q4 q5
      go_wp2_with fail
      refine (dgt_one w2).mono ?_
      rintro e w3 ⟨rfl, b3⟩
      have B3 := Lib.hid b3
      clear b3
      go_wp2_with fail
      refine (datagramC_any oneRec oneRec_len w3 ad (keep_of_below (below_two P5.out (below_two Q5.out B3.out)) _ _ HG.out)).mono ?_
      rintro e w4 (⟨zs3, D, k3, c3, rfl, r1, r2, r3, r4, r5⟩ | ⟨rfl, r4, r5⟩)
      · have e3 : [oneRec] = zs3 := (r4 _).1 oneRec_cut
        subst e3
        simp at r1
        subst r1
        have R5 := Lib.hid r5
        clear r2 r3 r4 r5
        have HS := Lib.hid (same_any A B k k2 c c2 zs zs P1.out Q1.out (by have := P2.out; have := HN.out; omega) w4 (P3.out.keep (below_two Q5.out (below_two B3.out R5.out))) (Q3.out.keep (below_two B3.out R5.out)))
        go_wp2_with fail
        refine HS.out.mono ?_
        rintro e w5 ⟨d, rfl, hd, b5⟩
        have hdt : d = true := hd.2 rfl
        subst hdt
        clear hd
        go_wp2_with fail
        go_ret
        exact ⟨rfl, below_two P5.out (below_two Q5.out (below_two B3.out (below_two R5.out b5)))⟩
      · exact absurd oneRec_cut (r4 _)
    · exact absurd ((P4.out zs).2 rfl) (q4 zs)
  · have P4 := Lib.hid p4
    have P5 := Lib.hid p5
    clear p4 p5
    go_wp2_with fail
    refine (datagramC_any l HN.out w1 ad (keep_of_below P5.out _ _ HG.out)).mono ?_
    rintro e w2 (⟨zs2, B, k2, c2, rfl, q1, q2, q3, q4, q5⟩ | ⟨rfl, q4, q5⟩)
    · exact absurd ((q4 zs2).2 rfl) (P4.out zs2)
    · have Q5 := Lib.hid q5
      clear q4 q5
      go_wp2_with fail
      refine (dgt_one w2).mono ?_
      rintro e w3 ⟨rfl, b3⟩
      have B3 := Lib.hid b3
      clear b3
      go_wp2_with fail
      refine (datagramC_any oneRec oneRec_len w3 ad (keep_of_below (below_two P5.out (below_two Q5.out B3.out)) _ _ HG.out)).mono ?_
      rintro e w4 (⟨zs3, D, k3, c3, rfl, r1, r2, r3, r4, r5⟩ | ⟨rfl, r4, r5⟩)
      · have e3 : [oneRec] = zs3 := (r4 _).1 oneRec_cut
        subst e3
        simp at r1
        subst r1
        have R5 := Lib.hid r5
        clear r2 r3 r4 r5
        go_wp2_with fail
        refine (same_nil none none 0 0 w4).mono ?_
        rintro e w5 ⟨rfl, rfl⟩
        go_wp2_with fail
        go_ret
        exact ⟨rfl, below_two P5.out (below_two Q5.out (below_two B3.out R5.out))⟩
      · exact absurd oneRec_cut (r4 _)
theorem dgt_row (l : List UInt8) (w : World) (ad : Addr) (hg : w.cell? ⟨0, 0, none⟩ = some (.iface 52 (.pointer (some ad)))) :
    Calls Tryd.prog 4 #[.string (S l)] w fun e w' => e = .returned (.bool true) ∧ Below w.heap.size w w' := by
  by_cases h1 : (2147483647 : Int) < l.length
  · exact dgt_big l (by simpa using h1) w
  · exact dgt_any l (by simpa using h1) w ad hg
end Go.Proofs.YtkcacppcendhmaaDoor
