/- Walks of the laws' small helpers: big, vec, framedExt, text, PutUint16. -/
import Derived.Test.YtpedkkmoplbdhaaDoorProg
import Derived.Test.YtpedkkmoplbdhaaDoorBase
import Derived.LoopTactic
namespace Go.Proofs.YtpedkkmoplbdhaaDoor
open Go.RowKit Go.Cv
set_option maxRecDepth 100000
set_option linter.unusedVariables false
theorem u8info : (Tryd.prog.info? 5).map (fun i => (i.zero, i.size, i.bytes)) = some (some (.int .u8 0), 1, 1) := by kernel_rfl
def be : Nat → Nat → List UInt8
  | 0, _ => []
  | i + 1, n => UInt8.ofNat (n / 256 ^ i) :: be i n
theorem be_length (k n : Nat) : (be k n).length = k := by
  induction k with
  | zero => rfl
  | succ k ih => simp [be, ih]
theorem be_step (k j n : Nat) (hj : j < k) : (List.replicate (k - j) (Value.int .u8 0) ++ vs (be j n)).set (k - 1 - j) (.int .u8 ((n : Int) / 256 ^ j % 256)) =
    List.replicate (k - (j + 1)) (Value.int .u8 0) ++ vs (be (j + 1) n) := by
  have h1 : k - j = (k - (j + 1)) + 1 := by omega
  have h2 : k - 1 - j = k - (j + 1) := by omega
  rw [h1, h2, List.replicate_succ', List.append_assoc, List.set_append_right _ _ (by simp)]
  simp only [List.length_replicate, Nat.sub_self]
  congr 1

theorem put16_any (B b o n c p k m c' : Nat) (xs : List Value) (v : Nat) (w : World) (hown : Own w B 1 (some ⟨b, o, none⟩) n c xs) (hp : p = o + k) (hk : k + 2 ≤ n) (hm : 2 ≤ m) :
    Calls Tryd.prog 56 #[.agg #[], .slice (some ⟨b, p, none⟩) m c', .int .u16 v] w fun e w' =>
      e = .returned (.tuple #[]) ∧ Own w' B 1 (some ⟨b, o, none⟩) n c ((xs.set k (.int .u8 ((v : Int) / 256 % 256))).set (k + 1) (.int .u8 ((v : Int) % 256))) ∧ w.grownBy w' (some b) := by
  subst hp
  obtain ⟨v0, _, hc0, hf0⟩ := hown.at_ k (by omega)
  obtain ⟨v1, _, hc1, hf1⟩ := hown.at_ (k + 1) (by omega)
  have hb0 := block_lt hc0
  have hs0 := (hown.set k (by omega) (.int .u8 ((v : Int) / 256 % 256))).set (k + 1) (by omega) (.int .u8 ((v : Int) % 256))
  have hs := hs0.keep ((Below.refl _ _).alloc (Nat.le_refl _) (.cells #[] 114))
  simp only [← Nat.add_assoc] at hc1 hf1 hs
  clear hs0
  have hg : w.grownBy (((w.setCell ⟨b, o + k, none⟩ (.int .u8 ((v : Int) / 256 % 256))).setCell ⟨b, o + k + 1, none⟩ (.int .u8 ((v : Int) % 256))).alloc (.cells #[] 114)) (some b) :=
    ⟨rfl, rfl, rfl, by simp, fun j hj hne => by
      rw [Below.heap_alloc _ _ _ (by simp; exact hj), Below.heap_setCell _ _ _ _ (fun e => hne (by rw [e])), Below.heap_setCell _ _ _ _ (fun e => hne (by rw [e]))]⟩
  clear hown
  go_enter Tryd.func56, Tryd.ntmps56
  go_wp2_with fail
  go_end0
  exact ⟨rfl, hs, hg⟩
theorem text_any (A : Option Addr) (n c : Nat) (l : List UInt8) (hl : l.length = n) (w : World) (hr : Rd w A (vs l)) :
    Calls Tryd.prog 33 #[.slice A n c, .nilIface] w fun e w' => e = .returned (.tuple #[.string (S l), .bool true]) ∧ w = w' := by
  go_enter Tryd.func33, Tryd.ntmps33
  go_wp2_with fail
  refine upon_conv_bs 51 9 5 Tryd.underlying51 Tryd.underlying5 Tryd.underlying9 l A n c hl hr ?_
  go_wp2_with fail
  go_ret2
  exact ⟨rfl, rfl⟩
end Go.Proofs.YtpedkkmoplbdhaaDoor
