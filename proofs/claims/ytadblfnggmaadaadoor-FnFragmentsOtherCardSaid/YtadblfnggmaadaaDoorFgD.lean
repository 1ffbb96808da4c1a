/- Walks: a record with a piece of a message is pushed: all ways. -/
import Derived.Test.YtadblfnggmaadaaDoorFgDna
import Derived.Test.YtadblfnggmaadaaDoorFgDnb
import Derived.Test.YtadblfnggmaadaaDoorFgDsa
import Derived.Test.YtadblfnggmaadaaDoorFgDsb
import Derived.Test.YtadblfnggmaadaaDoorFgDsc
namespace Go.Proofs.YtadblfnggmaadaaDoor
open Go.RowKit Go.Cv
set_option maxRecDepth 100000
set_option linter.unusedVariables false
theorem push_piece (body : List UInt8) (kd ep sq a z L ln : Nat) (x : Option (List (Nat × Nat))) (F : List Nat) (f b n c : Nat) (l : List UInt8) (hL : body.length = L) (hL3 : L ≤ 3000) (haz : a ≤ z) (hzL : z ≤ L) (hl : (body.take z).drop a = l) (hln : a + ln = z) (hkd : kd < 256) (hep : ep < 65536) (hsq : sq < 281474976710656)
    (hn : 25 + ln = n) (hnc : n ≤ c) (hx : ∀ ps, x = some ps → ps.length ≤ 100) (ev : Value) (w : World)
    (hr : Rd w (some ⟨b, 0, none⟩) (vs (headOf 22 254 253 ep sq (12 + ln) [] ++ (hsH kd L 0 a ln ++ l)))) (hB : BufM w F f body kd ep x) (hbF : b ∉ F)
    (v0 : w.cell? ⟨4, 0, none⟩ = some (.int .u8 254) ∧ w.cell? ⟨4, 1, none⟩ = some (.int .u8 255)) (v2 : w.cell? ⟨5, 0, none⟩ = some (.int .u8 254) ∧ w.cell? ⟨5, 1, none⟩ = some (.int .u8 253))
    (hev : w.cell? ⟨0, 0, none⟩ = some ev) :
    Calls Tryd.prog 32 #[.pointer (some ⟨f, 0, none⟩), .slice (some ⟨b, 0, none⟩) n c] w fun e w' => e = .returned (.tuple #[.bool true, .bool false, .nilIface]) ∧ PushPost body kd ep a z x F f b w w' := by
  by_cases hs : a = 0 ∧ ¬ ∃ p ∈ x.getD [], p.1 = 0
  · cases hx0 : x with
    | none => rw [← hx0]; exact push_na body kd ep sq a z L ln x F f b n c l hL hL3 haz hzL hl hln hkd hep hsq hn hnc hx ev w hr hB hbF v0 v2 hx0 hs.1 hs.2 hev
    | some ps => rw [← hx0]; exact push_sa body kd ep sq a z L ln x F f b n c l hL hL3 haz hzL hl hln hkd hep hsq hn hnc hx ev w hr hB hbF v0 v2 ps hx0 hs.1 hs.2 hev
  · have hn2 : a = 0 → ∃ p ∈ x.getD [], p.1 = 0 := fun h => Classical.byContradiction fun h2 => hs ⟨h, h2⟩
    by_cases ha : a = 0
    · cases hx0 : x with
      | none => obtain ⟨p, hp, _⟩ := hn2 ha; rw [hx0] at hp; simp at hp
      | some ps => rw [← hx0]; exact push_sc body kd ep sq a z L ln x F f b n c l hL hL3 haz hzL hl hln hkd hep hsq hn hnc hx ev w hr hB hbF v0 v2 ps hx0 ha (hn2 ha) hev
    · cases hx0 : x with
      | none => rw [← hx0]; exact push_nb body kd ep sq a z L ln x F f b n c l hL hL3 haz hzL hl hln hkd hep hsq hn hnc hx ev w hr hB hbF v0 v2 hx0 ha hev
      | some ps => rw [← hx0]; exact push_sb body kd ep sq a z L ln x F f b n c l hL hL3 haz hzL hl hln hkd hep hsq hn hnc hx ev w hr hB hbF v0 v2 ps hx0 ha hev
end Go.Proofs.YtadblfnggmaadaaDoor
