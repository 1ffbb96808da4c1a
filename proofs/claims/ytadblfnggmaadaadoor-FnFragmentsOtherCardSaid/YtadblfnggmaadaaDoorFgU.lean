/- Walks: whether a message's pieces are right; a piece's record; a whole message. -/
import Derived.Test.YtadblfnggmaadaaDoorFgT
import Derived.Test.YtadblfnggmaadaaDoorRgK
namespace Go.Proofs.YtadblfnggmaadaaDoor
open Go.RowKit Go.Cv
set_option maxRecDepth 100000
set_option linter.unusedVariables false
def ipv (z : Int × Int) : List Value := [.int .i64 z.1, .int .i64 z.2]
theorem ipv_length (z : Int × Int) : (ipv z).length = 2 := rfl
def FitPost (L n : Nat) (w : World) (e : Ending) (w' : World) : Prop := ∃ d : Bool, e = .returned (.bool d) ∧ Hid (d = true → L ≤ 2147483647 ∧ n ≤ 2147483647) ∧ Below w.heap.size w w'
theorem fits_any (k : Int) (body : List UInt8) (A : Option Addr) (n c L : Nat) (hL : body.length = L) (w : World) :
    Calls Tryd.prog 9 #[.agg #[.int .u8 k, .string (S body), .slice A n c]] w fun e w' => FitPost L n w e w' := by
  have z0 : (S body).size = L := by rw [S_size, hL]
  clear hL
  have hb := below_alloc w (.cells #[.int .u8 k, .string (S body), .slice A n c] 41)
  have HB := Lib.hid hb
  clear hb
  obtain ⟨d1, h1⟩ : ∃ d, decide ((2147483647 : Int) < (L : Int)) = d := ⟨_, rfl⟩
  obtain ⟨d2, h2⟩ : ∃ d, decide ((2147483647 : Int) < (n : Int)) = d := ⟨_, rfl⟩
  have H1 : Hid (d1 = false → L ≤ 2147483647) := Lib.hid (by intro h; rw [h] at h1; simp at h1; omega)
  have H2 : Hid (d2 = false → n ≤ 2147483647) := Lib.hid (by intro h; rw [h] at h2; simp at h2; omega)
  cases d1
  case true =>
    go_enter Tryd.func9, Tryd.ntmps9
    go_wp2_with fail
    first | go_ret2 | go_ret
    exact (show FitPost _ _ _ _ _ from ⟨_, rfl, Lib.hid (fun h => by cases h), HB.out⟩)
  case false =>
    cases d2 <;> (go_enter Tryd.func9, Tryd.ntmps9; go_wp2_with fail; first | go_ret2 | go_ret)
    · exact (show FitPost _ _ _ _ _ from ⟨_, rfl, Lib.hid (fun _ => ⟨by first | exact H1.out rfl | exact H1.out trivial | exact H1.out, by first | exact H2.out rfl | exact H2.out trivial | exact H2.out⟩), HB.out⟩)
    · exact (show FitPost _ _ _ _ _ from ⟨_, rfl, Lib.hid (fun h => by cases h), HB.out⟩)
/-- A whole message. -/
theorem whole_any (kd : Nat) (body : List UInt8) (A : Option Addr) (n c L : Nat) (hL : body.length = L) (hL3 : L ≤ 3000) (hkd : kd < 256) (w : World) :
    Calls Tryd.prog 12 #[.agg #[.int .u8 (kd : Nat), .string (S body), .slice A n c], .int .i64 0] w fun e w' => e = .returned (.string (S (hsW kd L ++ body))) ∧ Below w.heap.size w w' := by
  have z0 : (S body).size = L := by rw [S_size, hL]
  have hb := below_alloc w (.cells #[.int .u8 (kd : Nat), .string (S body), .slice A n c] 41)
  have HB := Lib.hid hb
  clear hb
  have u1 := u32_wrap L (by omega)
  have HW : Hid (∀ W, Calls Tryd.prog 23 #[.agg #[.int .u8 (kd : Nat), .int .u32 (L : Nat), .int .u16 0, .int .u32 0, .int .u32 (L : Nat)]] W fun e w' => e = .returned (.tuple #[.string (S (hsW kd L)), .bool true]) ∧ Below W.heap.size W w') := Lib.hid (hsWrite kd L 0 0 L hkd (by omega) (by omega) (by omega) (by omega))
  obtain ⟨h, hh⟩ : ∃ h, hsW kd L = h := ⟨_, rfl⟩
  obtain ⟨q, hq⟩ : ∃ q, h ++ body = q := ⟨_, rfl⟩
  have hl : h.length = 12 := by rw [← hh]; rfl
  have hql : q.length ≤ 9223372036854775807 := by rw [← hq, List.length_append]; omega
  have ha := fun w => run_add_eq (P := Tryd.prog) h body q hq hql w
  rw [hh] at HW ⊢
  rw [hq]
  clear hL hL3 hkd hq hql hl hh
  go_enter Tryd.func12, Tryd.ntmps12
  go_wp2_with fail
  refine (HW.out _).mono ?_
  rintro e w2 ⟨rfl, hb2⟩
  have hk := (Blk.new w 41 #[.int .u8 (kd : Nat), .string (S body), .slice A n c]).keep hb2
  have c1 : w2.cell? ⟨w.heap.size, 1, none⟩ = some (.string (S body)) := (hk.cell 1).trans rfl
  have HB2 := Lib.hid (below_two HB.out hb2)
  clear hk hb2
  go_wp2_with fail
  go_ret
  exact ⟨rfl, HB2.out⟩
/-- A piece's record. -/
theorem piece_any (kd ep k a z ln : Nat) (body l : List UInt8) (A : Option Addr) (n c L : Nat) (hL : body.length = L) (hL3 : L ≤ 3000) (hkd : kd < 256) (hep : ep < 65536) (hk : k < 1000) (haz : a + ln = z) (hzL : z ≤ L) (hl : (body.take z).drop a = l) (w : World) :
    Calls Tryd.prog 14 #[.agg #[.int .u8 (kd : Nat), .string (S body), .slice A n c], .int .i64 0, .agg #[.int .i64 (a : Nat), .int .i64 (z : Nat)], .int .u16 (ep : Nat), .int .u64 (k : Nat)] w fun e w' =>
      e = .returned (.string (S (headOf 22 254 253 ep (k &&& 281474976710655) (12 + ln) [] ++ (hsH kd L 0 a ln ++ l)))) ∧ Below w.heap.size w w' := by
  have z0 : (S body).size = L := by rw [S_size, hL]
  have hll : l.length = ln := by rw [← hl, List.length_drop, List.length_take]; omega
  have hb : Below w.heap.size w ((w.alloc (.cells #[.int .u8 (kd : Nat), .string (S body), .slice A n c] 41)).alloc (.cells #[.int .i64 (a : Nat), .int .i64 (z : Nat)] 26)) := below_two (below_alloc _ _) (below_alloc _ _)
  have HB := Lib.hid hb
  have hk1 := (Blk.new w 41 #[.int .u8 (kd : Nat), .string (S body), .slice A n c]).keep (below_alloc _ (.cells #[.int .i64 (a : Nat), .int .i64 (z : Nat)] 26))
  have hk2 := Blk.new (w.alloc (.cells #[.int .u8 (kd : Nat), .string (S body), .slice A n c] 41)) 26 #[.int .i64 (a : Nat), .int .i64 (z : Nat)]
  rw [World.size_alloc] at hk2
  have HK := Lib.hid (And.intro hk1 hk2)
  clear hb hk1 hk2
  have u1 := u32_wrap L (by omega)
  have u2 := u32_wrap a (by omega)
  have u3 := u32_wrap ln (by omega)
  have e1 : (z : Int) - (a : Int) = (ln : Int) := by omega
  have W1 := Lib.hid (And.intro (w64_all ln (by omega)) (i64_nat ln (by omega)))
  have HW : Hid (∀ W, Calls Tryd.prog 23 #[.agg #[.int .u8 (kd : Nat), .int .u32 (L : Nat), .int .u16 0, .int .u32 (a : Nat), .int .u32 (ln : Nat)]] W fun e w' => e = .returned (.tuple #[.string (S (hsH kd L 0 a ln)), .bool true]) ∧ Below W.heap.size W w') := Lib.hid (hsWrite kd L 0 a ln hkd (by omega) (by omega) (by omega) (by omega))
  obtain ⟨h, hh⟩ : ∃ h, hsH kd L 0 a ln = h := ⟨_, rfl⟩
  obtain ⟨q, hq⟩ : ∃ q, h ++ l = q := ⟨_, rfl⟩
  have hhl : h.length = 12 := by rw [← hh]; rfl
  have hql : q.length = 12 + ln := by rw [← hq, List.length_append]; omega
  have ha := fun w => run_add_eq (P := Tryd.prog) h l q hq (by omega) w
  have HF : Hid (∀ W, Calls Tryd.prog 11 #[.int .u8 22, .int .u16 (ep : Nat), .int .u64 (k : Nat), .string { data := #[] }, .string (S q)] W fun e w' => e = .returned (.string (S (headOf 22 254 253 ep (k &&& 281474976710655) (12 + ln) [] ++ q))) ∧ Below W.heap.size W w') := by
    refine Lib.hid fun W => ?_
    have h := framed_any 22 ep k q (by omega) (by omega) (by omega) (by omega) W
    rw [hql] at h
    exact h
  have z3 : (S body).extract a z = S l := by rw [S_extract, hl]
  have i1 : a ≤ z := by omega
  have i2 : z ≤ L := hzL
  have i3 : (a : Int) ≤ (z : Int) := by omega
  have i4 : (z : Int) ≤ (L : Int) := by omega
  rw [hh] at HW ⊢
  rw [hq]
  clear hL hL3 hkd hep hk haz hzL hl hll hq hql hhl hh
  obtain ⟨w1, w2⟩ := W1.out
  go_enter Tryd.func14, Tryd.ntmps14
  go_wp2_with fail
  refine (HW.out _).mono ?_
  rintro e w3 ⟨rfl, hb3⟩
  have c1 : w3.cell? ⟨w.heap.size, 1, none⟩ = some (.string (S body)) := ((HK.out.1.keep hb3).cell 1).trans rfl
  have d0 : w3.cell? ⟨w.heap.size + 1, 0, none⟩ = some (.int .i64 (a : Nat)) := ((HK.out.2.keep hb3).cell 0).trans rfl
  have d1 : w3.cell? ⟨w.heap.size + 1, 1, none⟩ = some (.int .i64 (z : Nat)) := ((HK.out.2.keep hb3).cell 1).trans rfl
  have HB3 := Lib.hid (below_two HB.out hb3)
  clear hb3 w1 w2 u1 u2 u3 e1
  go_wp2_with fail
  refine (HF.out _).mono ?_
  rintro e w4 ⟨rfl, hb4⟩
  have HB4 := Lib.hid (below_two HB3.out hb4)
  clear hb4
  go_wp2_with fail
  go_ret
  exact ⟨rfl, HB4.out⟩
end Go.Proofs.YtadblfnggmaadaaDoor
