/- Walks: the secret that is derived, in the specification. -/
import Derived.Test.YtohankdfnjogfaaDoorSpH
import Derived.Test.YtohankdfnjogfaaDoorHkl
namespace Go.Proofs.YtohankdfnjogfaaDoor
open Go.RowKit Go.Cv
set_option maxRecDepth 100000
set_option linter.unusedVariables false
theorem be2h (n : Nat) : vs (be 2 n) = [.int .u8 ((n : Int) / 256 % 256), .int .u8 ((n : Int) % 256)] := by
  simp [be, vs]
theorem be1h (n : Nat) : vs (be 1 n) = [.int .u8 ((n : Int) % 256)] := by
  simp [be, vs]
theorem keyTwoH (n : Nat) (hn : (n : Int) < 65536) (w : World) :
    Calls Tryd.prog 18 #[.int .i64 n] w fun e w' => e = .returned (.string (S (be 2 n))) ∧ Below w.heap.size w w' := by
  have h1 : (n : Int) / 256 % 256 = (n : Int) / 256 := by omega
  clear hn
  go_enter Tryd.func18, Tryd.ntmps18
  go_wp2_with fail
  refine upon_conv_bs 30 9 5 Tryd.underlying30 Tryd.underlying5 Tryd.underlying9 (be 2 n) _ _ _ (be_length _ _) (by rw [be2h, h1]; exact rd_pair _ _ _ _) ?_
  go_wp2_with fail
  go_ret
  exact ⟨rfl, below_alloc _ _⟩
theorem rd_cellH (W : World) (h : Nat) (v : Value) (hc : W.cell? ⟨h, 0, none⟩ = some v) : Rd W (some ⟨h, 0, none⟩) [v] := by
  refine .inr ⟨_, _, rfl, ?_⟩
  intro j u hj
  cases j with
  | zero => simp at hj; subst hj; simpa using hc
  | succ j => simp at hj
theorem conv_rowH (k : List UInt8) (v : Value) (hv : vs k = [v]) (h : Nat) (W : World) (hc : W.cell? ⟨h, 0, none⟩ = some v) :
    (convert 30 9 (.slice (some ⟨h, 0, none⟩) 1 1)).run Tryd.prog W = .ok (.string (S k)) W :=
  run_conv_bs W 30 9 5 Tryd.underlying30 Tryd.underlying5 Tryd.underlying9 k _ 1 1 (by have := congrArg List.length hv; simpa [vs_length] using this) (by rw [hv]; exact rd_cellH _ _ _ hc)
theorem cells_keptH {w w' : World} (hb : Below w.heap.size w w') (b o : Nat) (h : b < w.heap.size) : w'.cell? ⟨b, o, none⟩ = w.cell? ⟨b, o, none⟩ := by
  unfold World.cell?
  rw [hb.block b h]
set_option maxHeartbeats 2000000 in
theorem s_expand (kind : Nat) (hk : kind < 64) (key info : List UInt8) (hs1 : key.length ≤ 50000) (hs2 : info.length ≤ 50000) (w : World) :
    Calls Tryd.prog 19 #[.int .i64 (kind : Nat), .string (S key), .string (S info), .int .i64 (toySize kind : Nat)] w fun e w' => e = .returned (.string (S (toyHmac kind key (info ++ [1])))) ∧ Below w.heap.size w w' := by
  have HH := Lib.hid (fun W => s_hmac kind hk key (info ++ [1]) (by omega) (by rw [List.length_append]; simp; omega) W)
  have hs32 := toySize_le kind
  have hs0 : 4 ≤ toySize kind := by unfold toySize; omega
  have hTL := toyHmac_length kind key (info ++ [1])
  obtain ⟨s, hs⟩ : ∃ s, toySize kind = s := ⟨_, rfl⟩
  rw [hs] at hTL hs32 hs0 ⊢
  obtain ⟨tx, htx⟩ : ∃ t, toyHmac kind key (info ++ [1]) = t := ⟨_, rfl⟩
  rw [htx] at HH hTL ⊢
  have z1 : (S tx).size = s := by rw [S_size, hTL]
  have ha1 : ∀ w, (Op.stringOp .add (ByteArray.mk #[]) (S info)).run Tryd.prog w = .ok (.string (S info)) w := fun w => run_add_eq (P := Tryd.prog) [] info info rfl (by omega) w
  have ha2 : ∀ w, (Op.stringOp .add (ByteArray.mk #[]) (S tx)).run Tryd.prog w = .ok (.string (S tx)) w := fun w => run_add_eq (P := Tryd.prog) [] tx tx rfl (by omega) w
  obtain ⟨k1, e1⟩ : ∃ k : List UInt8, [1] = k := ⟨_, rfl⟩
  rw [e1] at HH
  obtain ⟨q, hq⟩ : ∃ q, info ++ k1 = q := ⟨_, rfl⟩
  have ha3 := fun w => run_add_eq (P := Tryd.prog) info k1 q hq (by rw [← hq, ← e1, List.length_append]; simp; omega) w
  have hc1 := conv_rowH k1 (.int .u8 1) (by rw [← e1]; rfl)
  rw [hq] at HH
  have HTX := Lib.hid (And.intro htx (And.intro e1 (And.intro hq hTL)))
  have t1 : decide ((0 : Int) < s) = true := by simp; omega
  have t1' : (0 : Int) < s := by omega
  have t2 : decide ((s : Int) < s) = false := by simp
  clear hk hs hs1 hs2 htx e1 hq hTL
  go_enter Tryd.func19, Tryd.ntmps19
  go_wp2_with fail
  go_loopw [9, 10, 11] (fun o l i wr => (o = .string (.mk #[]) ∧ l = .string (.mk #[]) ∧ i = .int .i64 1 ∧ wr = w) ∨ (o = .string (S tx) ∧ i = .int .i64 2 ∧ Hid (Below w.heap.size w wr))) (fun _ _ i _ => 2 - (intOf i).toNat)
  case atStart => exact .inl ⟨rfl, rfl, rfl, rfl⟩
  case round =>
    rcases hrel with ⟨rfl, rfl, rfl, rfl⟩ | ⟨rfl, rfl, HJ⟩
    · go_wp2_with fail
      refine (HH.out _).mono ?_
      rintro e w2 ⟨rfl, hb2⟩
      have HB2 := Lib.hid (below_two (below_alloc _ _) hb2)
      clear hb2
      go_wp2_with fail
      go_roundw
      case rel => exact .inr ⟨by first | rfl | simp, by first | rfl | simp, HB2⟩
      case measure => simp [intOf]
    · go_wp2_with fail
      rw [S_extract, List.drop_zero, List.take_of_length_le (by rw [HTX.out.2.2.2]; exact Nat.le_refl _)]
      go_ret
      exact ⟨rfl, HJ.out⟩
end Go.Proofs.YtohankdfnjogfaaDoor
