/- Walks: the library's HMAC over the stand-in hash. -/
import Derived.Test.YtpedkkmoplbdhaaDoorDig
import Derived.Defers
import Derived.LaidEql
namespace Go.Proofs.YtpedkkmoplbdhaaDoor
open Go.RowKit Go.Cv
set_option maxRecDepth 100000
set_option linter.unusedVariables false
theorem i_comp : (Tryd.prog.info? 132).map (·.comparable) = some true := by kernel_rfl
theorem i_size : (Tryd.prog.info? 134).map (fun i => i.size != 0) = some true := by kernel_rfl
theorem two_hashes (d1 d2 : Nat) (ca cb : Array Value) (ta tb : TypeId) (w : World) (hd : d2 ≠ d1) (ha : w.heap[d2]? = some (.cells ca ta (0, 0))) (hb : w.heap[d1]? = some (.cells cb tb (0, 0))) :
    (binOp .eql 131 (.iface 132 (.pointer (some ⟨d2, 0, none⟩))) (.iface 132 (.pointer (some ⟨d1, 0, none⟩)))).run Tryd.prog w = .ok (.bool false) w := by
  obtain ⟨i, hi, hcmp⟩ := Option.map_eq_some_iff.1 i_comp
  obtain ⟨j, hj, hjs⟩ := Option.map_eq_some_iff.1 i_size
  exact run_eql_iface_ptr_other (P := Tryd.prog) w Tryd.underlying131 Tryd.underlying132 hi hcmp hj (by simpa using hjs) (fun e => hd (congrArg Addr.block e)) ha hb
set_option maxHeartbeats 2000000 in
theorem recov_any (w : World) : CallsD Tryd.prog 106 #[] .returning w fun e u' w' => e = .returned (.tuple #[]) ∧ u' = .returning ∧ w' = w := by
  refine callsD_of_wpS Tryd.func106 rfl fun c₀ cs hu => ?_
  apply wpS_region
  simp [wpOpsS, go_sem, recoverD, hu]
  cases c₀
  simp_all [bodyPostS, results, Tryd.results106]
def hmRow (op ip : Value) (d2 d1 : Value) (kl : Int) : Array Value := #[op, ip, d2, d1, .bool false, .bool false, .int .i64 kl]
set_option maxHeartbeats 2000000 in
theorem unique_any (p u h d1 d2 : Nat) (op ip : Value) (kl : Int) (ca cb : Array Value) (ta tb : TypeId) (w : World) (hd : d2 ≠ d1) (ha : w.heap[d2]? = some (.cells ca ta (0, 0))) (hb : w.heap[d1]? = some (.cells cb tb (0, 0))) (hp : w.cell? ⟨p, 0, none⟩ = some (.pointer (some ⟨h, 0, none⟩))) (hh : Blk w h 182 (hmRow op ip (.iface 132 (.pointer (some ⟨d2, 0, none⟩))) (.iface 132 (.pointer (some ⟨d1, 0, none⟩))) kl)) :
    Calls Tryd.prog 105 #[.pointer (some ⟨p, 0, none⟩), .pointer (some ⟨u, 0, none⟩)] w fun e w' => e = .returned (.tuple #[]) ∧ Below w.heap.size w w' := by
  have c2 := (hh.cell 2).trans (rfl : _ = some (Value.iface 132 (.pointer (some ⟨d2, 0, none⟩))))
  have c3 := (hh.cell 3).trans (rfl : _ = some (Value.iface 132 (.pointer (some ⟨d1, 0, none⟩))))
  have HE := fun n => two_hashes d1 d2 ca cb ta tb (w.drewN n) hd ha hb
  clear hh hd ha hb
  go_enter_defers Tryd.func105, Tryd.ntmps105
  go_wp2_with fail
  go_quiet (fail)
  go_wp2_with fail
  have hb : Below w.heap.size w (w.drewN nq) := below_drewN (Below.refl _ w) nq
  generalize w.drewN nq = w1 at hb ⊢
  refine leaves_cons (f := 106) (args := #[]) (by simp) (by simp [go_sem]) ?_
  refine (recov_any w1).mono ?_
  rintro e u' w'' ⟨rfl, rfl, rfl⟩
  exact ⟨_, results_none rfl _ _ _, rfl, hb⟩
end Go.Proofs.YtpedkkmoplbdhaaDoor
