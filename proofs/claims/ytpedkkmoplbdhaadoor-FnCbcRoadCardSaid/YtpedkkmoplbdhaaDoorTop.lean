/- Walks: the premises of the laws about keys; how a hash is made and a text told. -/
import Derived.Test.YtpedkkmoplbdhaaDoorSumS
import Derived.Test.YtpedkkmoplbdhaaDoorDig
namespace Go.Proofs.YtpedkkmoplbdhaaDoor
open Go.RowKit Go.Cv
set_option maxRecDepth 100000
set_option linter.unusedVariables false
theorem hashFn (kind : Nat) (w : World) : Calls Tryd.prog 46 #[.int .i64 (kind : Nat)] w fun e w' => ∃ b, e = .returned (.func (Fn.func 70) #[] #[.pointer (some ⟨b, 0, none⟩)]) ∧ w'.cell? ⟨b, 0, none⟩ = some (.int .i64 (kind : Nat)) ∧ Below w.heap.size w w' := by
  go_enter Tryd.func46, Tryd.ntmps46
  go_wp2_with fail
  go_ret
  exact ⟨w.heap.size, rfl, by simp, below_alloc _ _⟩
theorem textOk (A : Option Addr) (n c : Nat) (l : List UInt8) (hn : l.length = n) (w : World) (hr : Rd w A (vs l)) : Calls Tryd.prog 33 #[.slice A n c, .nilIface] w fun e w' => e = .returned (.tuple #[.string (S l), .bool true]) ∧ w = w' := by
  have HR := Lib.hid hr
  have HN := Lib.hid hn
  clear hr hn
  go_enter Tryd.func33, Tryd.ntmps33
  go_wp2_with fail
  refine upon_conv_bs 51 9 5 Tryd.underlying51 Tryd.underlying5 Tryd.underlying9 l A n c HN.out HR.out ?_
  go_wp2_with fail
  first | go_ret2 | go_ret
  first | exact ⟨rfl, rfl⟩ | rfl | trivial
theorem all_take_succ (f : List UInt8 → Bool) (ls : List (List UInt8)) (j : Nat) (hj : j < ls.length) (h : (ls.take j).all f = true) (h2 : f (ls.getD j []) = true) : (ls.take (j + 1)).all f = true := by
  rw [List.take_succ_eq_append_getElem hj, List.all_append, h]
  have : ls.getD j [] = ls[j] := by simp [List.getD, hj]
  rw [this] at h2
  simp [h2]
theorem all_false (f : List UInt8 → Bool) (ls : List (List UInt8)) (j : Nat) (hj : j < ls.length) (h2 : f (ls.getD j []) = false) : ls.all f = false := by
  have : ls.getD j [] = ls[j] := by simp [List.getD, hj]
  rw [this] at h2
  rw [List.all_eq_false]
  exact ⟨_, List.getElem_mem hj, by simp [h2]⟩
set_option maxHeartbeats 1000000 in
theorem few_any (r n : Nat) (ls : List (List UInt8)) (hn : ls.length = n) (hn2 : n ≤ 100) (w : World) (hc : ∀ i, i < n → w.cell? ⟨r, i, none⟩ = some (.string (S (ls.getD i [])))) :
    Calls Tryd.prog 9 #[.slice (some ⟨r, 0, none⟩) n n] w fun e w' => e = .returned (.bool (ls.all fun l => decide (l.length ≤ 2000))) ∧ w = w' := by
  have HC := Lib.hid hc
  have HN := Lib.hid hn
  have n64 : n ≤ 4294967296 := by omega
  clear hc hn hn2
  go_enter Tryd.func9, Tryd.ntmps9
  go_wp2_with fail
  go_loopw [7] (fun i wr => ∃ j : Nat, j ≤ n ∧ i = .int .i64 j ∧ Hid ((ls.take j).all (fun l => decide (l.length ≤ 2000)) = true) ∧ wr = w) (fun i _ => n - (intOf i).toNat)
  case atStart => exact ⟨0, Nat.zero_le _, rfl, Lib.hid (by simp), rfl⟩
  case round =>
    obtain ⟨j, hj, rfl, HJ, rfl⟩ := hrel
    by_cases hlt : j < n
    · have c1 := HC.out j hlt
      have hjl : Hid (j < ls.length) := Lib.hid (by rw [HN.out]; exact hlt)
      have HG : Hid (ls.getD j [] = ls.getD j []) := Lib.hid rfl
      obtain ⟨l, hl⟩ : ∃ l, ls.getD j [] = l := ⟨_, rfl⟩
      rw [hl] at c1
      have HL := Lib.hid hl
      have z1 : (S l).size = l.length := S_size l
      have jw := w64_inc hlt n64
      clear hl HG
      by_cases h2 : l.length ≤ 2000
      · have t1 : decide ((2000 : Int) < l.length) = false := by simp; omega
        have h3 : ¬ 2000 < l.length := by omega
        clear h2
        go_wp2_with fail
        go_roundw
        case rel => exact ⟨j + 1, hlt, by first | (rw [jw]; go_num) | go_num, Lib.hid (all_take_succ _ ls j hjl.out HJ.out (by rw [HL.out]; exact decide_eq_true (by omega))), by trivial⟩
        case measure => first | exact t_meas hlt | (rw [jw]; exact t_meas hlt)
      · have t1 : decide ((2000 : Int) < l.length) = true := by simp; omega
        have h3 : 2000 < l.length := by omega
        have HF := Lib.hid (all_false (fun l => decide (l.length ≤ 2000)) ls j hjl.out (by rw [HL.out]; exact decide_eq_false h2))
        clear h2
        go_wp2_with fail
        go_ret
        exact ⟨by rw [HF.out]; rfl, rfl⟩
    · obtain rfl : n = j := by omega
      have HF := Lib.hid HJ.out
      clear HJ hlt
      go_wp2_with fail
      go_ret
      have h9 := HF.out
      rw [← HN.out, List.take_length] at h9
      exact ⟨by rw [h9]; rfl, rfl⟩
theorem s_block (k : Nat) (h : k < 64) (w : World) : Calls Tryd.prog 44 #[.int .i64 (k : Nat)] w fun e w' => e = .returned (.int .i64 (toyBlock k : Nat)) ∧ w = w' := by
  have h8 : k / 8 < 64 := by omega
  have e1 := t_and7 (k / 8) h8
  obtain ⟨q, hq⟩ : ∃ q, k / 8 = q := ⟨_, rfl⟩
  have e0 : (k : Int) / 8 = (q : Int) := by omega
  rw [hq] at e1
  obtain ⟨p, hp⟩ : ∃ p, q % 8 = p := ⟨_, rfl⟩
  have hp8 : p < 8 := by omega
  have e2 : (8 : Int) + 8 * (p : Int) = (toyBlock k : Nat) := by rw [toyBlock, hq, hp]; push_cast; rfl
  rw [hp] at e1
  have HE := Lib.hid e2
  clear h e2 hq hp h8
  go_enter Tryd.func44, Tryd.ntmps44
  go_wp2_with fail
  go_ret
  exact ⟨by rw [← HE.out]; rfl, rfl⟩
theorem keyHash_in (kind : Nat) (hk : kind < 64) (w : World) : Calls Tryd.prog 21 #[.int .i64 (kind : Nat)] w fun e w' => e = .returned (.bool (decide (toySize kind ≤ toyBlock kind))) ∧ w = w' := by
  have H1 := Lib.hid (s_size kind hk)
  have H2 := Lib.hid (s_block kind hk)
  have t1 : (0 : Int) ≤ kind := by omega
  have t2 : (kind : Int) < 64 := by omega
  have t3 : decide ((kind : Int) < 64) = true := by simp; omega
  obtain ⟨s, hs⟩ : ∃ s, toySize kind = s := ⟨_, rfl⟩
  obtain ⟨m, hm⟩ : ∃ m, toyBlock kind = m := ⟨_, rfl⟩
  rw [hs] at H1 ⊢
  rw [hm] at H2 ⊢
  clear hk hs hm
  go_enter Tryd.func21, Tryd.ntmps21
  go_wp2_with fail
  refine (H1.out w).mono ?_
  rintro e w1 ⟨rfl, rfl⟩
  go_wp2_with fail
  refine (H2.out w).mono ?_
  rintro e w1 ⟨rfl, rfl⟩
  go_wp2_with fail
  go_ret
  exact ⟨by simp, rfl⟩
theorem keyHash_no (x : Int) (hx : x < 0 ∨ 64 ≤ x) (w : World) : Calls Tryd.prog 21 #[.int .i64 x] w fun e w' => e = .returned (.bool false) ∧ w = w' := by
  rcases hx with hx | hx
  · have t1 : decide ((0 : Int) ≤ x) = false := by simp; omega
    have t2 : ¬ (0 : Int) ≤ x := by omega
    clear hx
    go_enter Tryd.func21, Tryd.ntmps21
    go_wp2_with fail
    go_ret
    exact ⟨rfl, rfl⟩
  · have t1 : decide ((0 : Int) ≤ x) = true := by simp; omega
    have t2 : (0 : Int) ≤ x := by omega
    have t3 : decide (x < 64) = false := by simp; omega
    have t4 : ¬ x < 64 := by omega
    clear hx
    go_enter Tryd.func21, Tryd.ntmps21
    go_wp2_with fail
    go_ret
    exact ⟨rfl, rfl⟩
end Go.Proofs.YtpedkkmoplbdhaaDoor
