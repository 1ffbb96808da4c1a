/- Walks: the keyed hash that P_hash calls. -/
import Derived.Test.YtohankdfnjogfaaHmSum
namespace Go.Proofs.Ytohankdfnjogfaa
open Go.RowKit Go.Cv
set_option maxRecDepth 100000
set_option linter.unusedVariables false
set_option maxHeartbeats 2000000 in
theorem hmacOf (p b kind : Nat) (hk : kind < 64) (A1 A2 : Option Addr) (n1 c1 n2 c2 : Nat) (key text : List UInt8) (hn1 : key.length = n1) (hn2 : text.length = n2) (hs1 : n1 ≤ 100000) (hs2 : n2 ≤ 100000) (w : World)
    (hp : w.cell? ⟨p, 0, none⟩ = some (.func (Fn.func 24) #[] #[.pointer (some ⟨b, 0, none⟩)])) (hb : w.cell? ⟨b, 0, none⟩ = some (.int .i64 (kind : Nat))) (hr1 : Rd w A1 (vs key)) (hr2 : Rd w A2 (vs text)) :
    Calls Try.prog 19 #[.slice A1 n1 c1, .slice A2 n2 c2, .pointer (some ⟨p, 0, none⟩)] w fun e w' => ∃ A' c', e = .returned (.tuple #[.slice A' (toySize kind) c', .nilIface]) ∧ Own w' w.heap.size 1 A' (toySize kind) c' (vs (toyHmac kind key text)) ∧ Below w.heap.size w w' := by
  have HN := Lib.hid (newHmac b kind hk A1 n1 c1 key hn1 hs1 w hb hr1)
  have HWR : Hid (∀ w' h, HM w w' h kind key [] → h = w.heap.size → Calls Try.prog 21 #[.pointer (some ⟨h, 0, none⟩), .slice A2 n2 c2] w' fun e w'' => e = .returned (.tuple #[.int .i64 (n2 : Nat), .nilIface]) ∧ HM w w'' h kind key ([] ++ text)) := Lib.hid (fun w' h hm he => hmWrite h kind key [] text A2 n2 c2 hn2 (by simp; omega) w w' hm (hr2.keep (by rw [← he]; exact hm.bel)))
  have HSU : Hid (∀ w' h, HM w w' h kind key ([] ++ text) → Calls Try.prog 22 #[.pointer (some ⟨h, 0, none⟩), .slice none 0 0] w' fun e w'' => ∃ A' c', e = .returned (.slice A' (toySize kind) c') ∧ Own w'' h 1 A' (toySize kind) c' (vs (toyHmac kind key ([] ++ text))) ∧ Below h w w'') := Lib.hid (fun w' h hm => hmSum h kind hk key ([] ++ text) (by simp; omega) w w' hm)
  obtain ⟨nk, hnk⟩ : ∃ nk, toySize kind = nk := ⟨_, rfl⟩
  rw [hnk] at HSU ⊢
  clear hb hr1 hr2 hn1 hn2 hs1 hs2 hk hnk
  go_enter Try.func19, Try.ntmps19
  go_wp2_with fail
  refine HN.out.mono ?_
  rintro e w1 ⟨h, rfl, hh, hm⟩
  have HH := Lib.hid hh
  have hc := Lib.hid (HWR.out w1 h hm hh)
  clear hm hh hp
  go_wp2_with fail
  refine hc.out.mono ?_
  rintro e w2 ⟨rfl, hm⟩
  have hc2 := Lib.hid (HSU.out w2 h hm)
  clear hm hc
  go_wp2_with fail
  refine hc2.out.mono ?_
  rintro e w3 ⟨A', c', rfl, hO, hb⟩
  have HO := Lib.hid hO
  have HB := Lib.hid hb
  clear hO hb hc2
  go_wp2_with fail
  go_ret2
  have h1 := HO.out
  have h2 := HB.out
  rw [List.nil_append, HH.out] at h1
  rw [HH.out] at h2
  first | exact ⟨A', c', rfl, h1, h2⟩ | exact ⟨⟨_, _, rfl⟩, h1, h2⟩
end Go.Proofs.Ytohankdfnjogfaa
