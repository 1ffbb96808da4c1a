/- Walks: a record by cipher block chaining is sealed, in the specification. -/
import Derived.Test.YtpedkkmoplbdhaaDoorBeS
import Derived.Test.YtpedkkmoplbdhaaDoorChS
import Derived.Test.YtpedkkmoplbdhaaDoorSpH
import Derived.Test.YtpedkkmoplbdhaaDoorAoX
import Derived.Test.YtpedkkmoplbdhaaDoorAoG
import Derived.Test.YtpedkkmoplbdhaaDoorAoP
namespace Go.Proofs.YtpedkkmoplbdhaaDoor
open Go.RowKit Go.Cv
set_option maxRecDepth 100000
set_option linter.unusedVariables false
set_option maxHeartbeats 1000000 in
theorem sHid (key iv s : List UInt8) (n : Nat) (hiv : iv.length = 16) (hs : s.length = 16 * n) (hn3 : n ≤ 1000) (w : World) :
    Calls Tryd.prog 49 #[.string (S key), .string (S iv), .string (S s)] w fun e w' => e = .returned (.string (S (cHid key n iv s))) ∧ Below w.heap.size w w' := by
  have HX := Lib.hid (fun a b ha hb W => sXor a b 16 ha hb (by omega) W)
  have HE := Lib.hid (fun b hb W => s_enc key b hb W)
  have HN := Lib.hid (And.intro hiv (And.intro hs hn3))
  clear hiv hs hn3
  go_enter Tryd.func49, Tryd.ntmps49
  go_wp2_with fail
  go_loopw [1, 2, 7] (fun v r o wr => ∃ (j : Nat) (iv' s' o' : List UInt8), j ≤ n ∧ v = .string (S iv') ∧ r = .string (S s') ∧ o = .string (S o') ∧ Hid (iv'.length = 16 ∧ s'.length = 16 * (n - j) ∧ o'.length = 16 * j ∧ cHid key n iv s = o' ++ cHid key (n - j) iv' s' ∧ Below w.heap.size w wr)) (fun _ r _ _ => match r with | .string s => s.size | _ => 0)
  case atStart => exact ⟨0, iv, s, [], Nat.zero_le _, rfl, rfl, rfl, Lib.hid ⟨HN.out.1, HN.out.2.1, rfl, rfl, Below.refl _ _⟩⟩
  case round =>
    obtain ⟨j, iv', s', o', hj, rfl, rfl, rfl, HJ⟩ := hrel
    obtain ⟨L, hL⟩ : ∃ L, s'.length = L := ⟨_, rfl⟩
    have hz : (S s').size = L := by rw [S_size, hL]
    by_cases hlt : j < n
    · have t0 : decide ((16 : Int) ≤ L) = true := decide_eq_true (by have := HJ.out.2.1; omega)
      have t1 : (16 : Int) ≤ L := by have := HJ.out.2.1; omega
      obtain ⟨bk, hbk⟩ : ∃ b, s'.take 16 = b := ⟨_, rfl⟩
      obtain ⟨rs, hrs⟩ : ∃ b, s'.drop 16 = b := ⟨_, rfl⟩
      have hx1 : (S s').extract 0 16 = S bk := by rw [S_extract, List.drop_zero, hbk]
      have hx2 : (S s').extract 16 L = S rs := by rw [S_extract, List.take_of_length_le (by rw [hL]; exact Nat.le_refl _), hrs]
      have hbl : bk.length = 16 := by rw [← hbk, List.length_take]; omega
      have hrl : rs.length = 16 * (n - (j + 1)) := by rw [← hrs, List.length_drop]; have := HJ.out.2.1; omega
      have H1 := Lib.hid (fun W => HX.out iv' bk HJ.out.1 hbl W)
      have H2 := Lib.hid (fun W => HE.out (xorL iv' bk 16) (xorL_length _ _ _) W)
      obtain ⟨cb, hcb⟩ : ∃ c, tEnc key (xorL iv' bk 16) = c := ⟨_, rfl⟩
      obtain ⟨xb, hxb⟩ : ∃ c, xorL iv' bk 16 = c := ⟨_, rfl⟩
      have hcl : cb.length = 16 := by rw [← hcb]; exact tEnc_length _ _
      rw [hcb] at H2
      rw [hxb] at H1 H2
      obtain ⟨o2, ho2⟩ : ∃ c, o' ++ cb = c := ⟨_, rfl⟩
      have ha := fun w => run_add_eq (P := Tryd.prog) o' cb o2 ho2 (by rw [← ho2, List.length_append, hcl]; have := HJ.out.2.2.1; have := HN.out.2.2; omega) w
      have HR : Hid (cHid key n iv s = o2 ++ cHid key (n - (j + 1)) cb rs) := Lib.hid (by
        rw [HJ.out.2.2.2.1, show n - j = (n - (j + 1)) + 1 by omega, cHid, hbk, hrs, hcb, ← List.append_assoc, ho2])
      have HO2 : Hid (o2.length = 16 * (j + 1)) := Lib.hid (by rw [← ho2, List.length_append, hcl]; have := HJ.out.2.2.1; omega)
      have HBJ := Lib.hid HJ.out.2.2.2.2
      have HLL : Hid (rs.length < L) := Lib.hid (by rw [hrl]; have := HJ.out.2.1; omega)
      clear hbk hrs hcb hxb ho2 HJ hL hbl
      go_wp2_with fail
      refine (H1.out wr).mono ?_
      rintro e w1 ⟨rfl, hb1⟩
      go_wp2_with fail
      refine (H2.out w1).mono ?_
      rintro e w2 ⟨rfl, hb2⟩
      have HB2 := Lib.hid (below_two (below_two HBJ.out hb1) hb2)
      clear hb1 hb2
      go_wp2_with fail
      go_quiet (fail)
      have HB3 := Lib.hid (below_drewN HB2.out nq)
      generalize w2.drewN nq = w3 at *
      go_wp2_with fail
      go_roundw
      case rel => exact ⟨j + 1, cb, rs, o2, hlt, rfl, rfl, rfl, Lib.hid ⟨hcl, hrl, HO2.out, HR.out, HB3.out⟩⟩
      case measure =>
        have h1 := HLL.out
        show (S rs).size < (S s').size
        rw [hz, S_size]; exact h1
    · obtain rfl : n = j := by omega
      have hL0 : L = 0 := by have := HJ.out.2.1; omega
      have t0 : decide ((16 : Int) ≤ L) = false := decide_eq_false (by omega)
      have t1 : ¬ (16 : Int) ≤ L := by omega
      have HF : Hid (cHid key n iv s = o') := Lib.hid (by rw [HJ.out.2.2.2.1, Nat.sub_self, cHid, List.append_nil])
      have HB := Lib.hid HJ.out.2.2.2.2
      clear HJ hlt hj hL hL0
      go_wp2_with fail
      first | go_ret2 | go_ret
      exact ⟨by rw [HF.out]; rfl, HB.out⟩
theorem sMac (kind : Nat) (hk : kind < 64) (ct : UInt8) (ep sq cl : Nat) (pl mk : List UInt8) (n : Nat) (hn : pl.length = n) (hn3 : n ≤ 10000) (hm : mk.length ≤ 10000) (hep : (ep : Int) < 65536) (w : World) :
    Calls Tryd.prog 48 #[.int .i64 (kind : Nat), .agg (recRow ct.toNat 254 253 ep sq cl []), .string (S pl), .string (S mk)] w fun e w' => e = .returned (.string (S (toyHmac kind mk (add13 ct 254 253 ep sq n ++ pl)))) ∧ Below w.heap.size w w' := by
  have hz : (S pl).size = n := by rw [S_size, hn]
  have H1 := Lib.hid (fun W => sAdd ct.toNat 254 253 ep sq cl [] n (by have := ct.toNat_lt; omega) (by omega) (by omega) hep (by omega) W)
  have ha : addS ct.toNat 254 253 ep sq n = add13 ct 254 253 ep sq n := add_same ct 254 253 ep sq n
  rw [ha] at H1
  obtain ⟨ad, had⟩ : ∃ a, add13 ct 254 253 ep sq n = a := ⟨_, rfl⟩
  have hal : ad.length = 13 := by rw [← had]; simp [add13, be_length]
  rw [had] at H1 ⊢
  obtain ⟨tx, htx⟩ : ∃ a, ad ++ pl = a := ⟨_, rfl⟩
  have hadd := fun w => run_add_eq (P := Tryd.prog) ad pl tx htx (by rw [← htx, List.length_append]; omega) w
  have H2 := Lib.hid (fun W => s_hmac kind hk mk tx (by omega) (by rw [← htx, List.length_append]; omega) W)
  rw [htx]
  generalize hcs : recRow ct.toNat 254 253 ep sq cl [] = cs at H1 ⊢
  have hi : (Tryd.prog.info? 25).map (·.size) = some cs.size := by rw [← hcs]; exact recInfo
  clear hcs hn hn3 hm hep ha had hal htx hk
  go_enter Tryd.func48, Tryd.ntmps48
  have hg := Blk.new w 25 cs
  have hb0 := below_alloc w (.cells cs 25)
  go_wp2_with (with_reducible refine Held.load 25 ?_)
  refine held_load_row hg Tryd.underlying25 hi rfl ?_
  generalize (World.alloc w _) = w0 at *
  have HB0 := Lib.hid hb0
  clear hb0 hg hi
  go_wp2_with fail
  refine (H1.out w0).mono ?_
  rintro e w1 ⟨rfl, hb1⟩
  go_wp2_with fail
  refine (H2.out w1).mono ?_
  rintro e w2 ⟨rfl, hb2⟩
  have HF := Lib.hid (below_two (below_two HB0.out hb1) hb2)
  clear hb1 hb2
  go_wp2_with fail
  first | go_ret2 | go_ret
  exact ⟨rfl, HF.out⟩
end Go.Proofs.YtpedkkmoplbdhaaDoor
