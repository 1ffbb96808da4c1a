/- Walks: nothing comes out of a buffer; the doors. -/
import Derived.Test.YtadblfnggmaadaaDoorFgF
namespace Go.Proofs.YtadblfnggmaadaaDoor
open Go.RowKit Go.Cv
set_option maxRecDepth 100000
set_option linter.unusedVariables false
theorem pop_none (f m cur : Nat) (sz ct : Int) (w : World) (hf : Blk w f 105 (fbRow m cur sz ct)) (hlk : ∀ W, Below w.heap.size w W → (Instr.lookup 103 (.map (some m)) (.int .u16 (cur : Nat)) true).run Tryd.prog W = .ok (.tuple #[.pointer none, .bool false]) W) :
    Calls Tryd.prog 33 #[.pointer (some ⟨f, 0, none⟩)] w fun e w' => e = .returned (.tuple #[.slice none 0 0, .int .u16 0]) ∧ Below w.heap.size w w' := by
  have y0 : w.cell? ⟨f, 0, none⟩ = some (.map (some m)) := (hf.cell 0).trans (by simp [fbRow])
  have y1 : w.cell? ⟨f, 1, none⟩ = some (.int .u16 (cur : Nat)) := (hf.cell 1).trans (by simp [fbRow])
  have lk := hlk w (Below.refl _ _)
  have lk2 := hlk w.drew (below_drew w)
  have HD := Lib.hid (below_drew w)
  clear hf hlk
  go_enter Tryd.func33, Tryd.ntmps33
  go_upto_region 1 with (fail)
  go_cut [4, 5] (fun s4 s5 wx => s4 = .pointer none ∧ s5 = .bool false ∧ Hid (Below w.heap.size w wx))
  case first =>
    go_region_with (fail)
    all_goals
    simp only [Act.put]
    dsimp only [List.getElem_toArray, List.getElem_cons_succ, List.getElem_cons_zero]
    simp only [List.setIfInBounds_toArray, List.set_cons_zero, List.set_cons_succ]
    go_wp2_with fail
    go_meet
    case rel => exact ⟨rfl, rfl, HD⟩
  case rest =>
  obtain ⟨rfl, rfl, HB1⟩ := hcut
  generalize wc = w1 at *
  clear y0 y1 lk lk2 HD
  go_upto_region 2 with (fail)
  go_quiet (fail)
  have HB2 := Lib.hid (below_two HB1.out (below_drewN (Below.refl w1.heap.size w1) nq))
  generalize w1.drewN nq = w2 at *
  go_wp2_with fail
  first | go_ret2 | go_ret
  exact ⟨rfl, HB2.out⟩
theorem Cache.look1' {w : World} {m n : Nat} {x : Option Nat} (h : Cache w m n x) : (Instr.lookup 103 (.map (some m)) (.int .u16 ((1 : Nat) : Int)) true).run Tryd.prog w = .ok (.tuple #[.pointer none, .bool false]) w := h.look1
theorem Cache.look0' {w : World} {m n : Nat} (h : Cache w m n none) : (Instr.lookup 103 (.map (some m)) (.int .u16 ((0 : Nat) : Int)) true).run Tryd.prog w = .ok (.tuple #[.pointer none, .bool false]) w := h.look0
/-- The door to pop, given what pop does. -/
theorem zzPop (f : Nat) (w : World) (Q : Ending → World → Prop)
    (h : ∀ W, Below w.heap.size w W → Calls Tryd.prog 33 #[.pointer (some ⟨f, 0, none⟩)] W fun e w' => ∃ (A : Option Addr) (n c : Nat) (ep : Int), e = .returned (.tuple #[.slice A n c, .int .u16 ep]) ∧ Q e w') :
    Calls Tryd.prog 26 #[.agg #[.pointer (some ⟨f, 0, none⟩)]] w fun e w' => Q e w' ∧ True := by
  have hb := below_alloc w (.cells #[.pointer (some ⟨f, 0, none⟩)] 81)
  have HC := Lib.hid (h _ hb)
  clear h hb
  go_enter Tryd.func26, Tryd.ntmps26
  go_wp2_with fail
  refine HC.out.mono ?_
  rintro e w2 ⟨A, n, c, ep, rfl, hQ⟩
  have HQ := Lib.hid hQ
  clear hQ
  go_wp2_with fail
  first | go_ret2 | go_ret
  exact ⟨HQ.out, trivial⟩
/-- The door to push, given what push does. -/
theorem zzPush (f : Nat) (v : Value) (w : World) (Q : Ending → World → Prop) (on again : Bool)
    (h : ∀ W, Below w.heap.size w W → Calls Tryd.prog 32 #[.pointer (some ⟨f, 0, none⟩), v] W fun e w' => e = .returned (.tuple #[.bool on, .bool again, .nilIface]) ∧ Q e w') :
    Calls Tryd.prog 25 #[.agg #[.pointer (some ⟨f, 0, none⟩)], v] w fun e w' => Q e w' ∧ True := by
  have hb := below_alloc w (.cells #[.pointer (some ⟨f, 0, none⟩)] 81)
  have HC := Lib.hid (h _ hb)
  clear h hb
  go_enter Tryd.func25, Tryd.ntmps25
  go_wp2_with fail
  refine HC.out.mono ?_
  rintro e w2 ⟨rfl, hQ⟩
  have HQ := Lib.hid hQ
  clear hQ
  go_wp2_with fail
  first | go_ret3 | go_ret
  exact ⟨HQ.out, trivial⟩
end Go.Proofs.YtadblfnggmaadaaDoor
