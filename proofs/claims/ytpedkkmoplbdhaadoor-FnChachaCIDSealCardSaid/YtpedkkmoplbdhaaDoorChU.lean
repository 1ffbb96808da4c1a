/- Walks: the header that the law makes. -/
import Derived.Test.YtpedkkmoplbdhaaDoorChUA
import Derived.Test.YtpedkkmoplbdhaaDoorChUB
import Derived.Test.YtpedkkmoplbdhaaDoorChUC
import Derived.Test.YtpedkkmoplbdhaaDoorChUD
namespace Go.Proofs.YtpedkkmoplbdhaaDoor
open Go.RowKit Go.Cv
set_option maxRecDepth 100000
set_option linter.unusedVariables false
theorem named12_any (ct maj mn ep sq cl n : Nat) (cid : List UInt8) (hn : cid.length = n) (ok : Bool) (hok : ok = decide (0 < n ∧ n < 256 ∧ sq ≤ 281474976710655)) (w : World) :
    Calls Tryd.prog 8 #[.agg (recRow ct maj mn ep sq cl cid)] w fun e w' => e = .returned (.tuple #[.agg (recRow 25 254 253 ep sq 0 cid), .bool ok]) ∧ Below w.heap.size w w' := by
  by_cases g1 : n = 0
  · obtain rfl : ok = false := by rw [hok]; exact decide_eq_false (by omega)
    exact named12_none ct maj mn ep sq cl n cid hn g1 w
  have t1' : 0 < n := by omega
  by_cases g2 : n < 256
  · by_cases g3 : sq ≤ 281474976710655
    · obtain rfl : ok = true := by rw [hok]; exact decide_eq_true ⟨t1', g2, g3⟩
      exact named12_ok ct maj mn ep sq cl n cid hn (decide_eq_true (by omega)) t1' (decide_eq_true (by omega)) g2 (decide_eq_true (by omega)) g3 w
    · obtain rfl : ok = false := by rw [hok]; exact decide_eq_false (fun h => g3 h.2.2)
      exact named12_late ct maj mn ep sq cl n cid hn (decide_eq_true (by omega)) t1' (decide_eq_true (by omega)) g2 (decide_eq_false (by omega)) g3 w
  · obtain rfl : ok = false := by rw [hok]; exact decide_eq_false (fun h => g2 h.2.1)
    exact named12_long ct maj mn ep sq cl n cid hn (decide_eq_true (by omega)) t1' (decide_eq_false (by omega)) g2 w
end Go.Proofs.YtpedkkmoplbdhaaDoor
