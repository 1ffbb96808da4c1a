/- Walks: a record by cipher block chaining is opened, in the thin package. -/
import Derived.Test.YtpedkkmoplbdhaaDoorBdec
import Derived.Test.YtpedkkmoplbdhaaDoorAoH
import Derived.Test.YtpedkkmoplbdhaaDoorRec
import Derived.Test.YtpedkkmoplbdhaaDoorTop
namespace Go.Proofs.YtpedkkmoplbdhaaDoor
open Go.RowKit Go.Cv
set_option maxRecDepth 100000
set_option linter.unusedVariables false
theorem conv_exB {P : Program} (w : World) (t1 t2 e : TypeId) (hs : P.underlying t1 = some .string) (hd : P.underlying t2 = some (.slice e)) (he : P.underlying e = some (.int .u8)) (l : List UInt8) (hl : l.length ≤ maxLen) :
    ∃ r : Nat × World, (convert t1 t2 (.string (S l))).run P w = .ok (.slice (some ⟨w.heap.size, 0, none⟩) l.length r.1) r.2 ∧ Rd r.2 (some ⟨w.heap.size, 0, none⟩) (vs l) ∧ Below w.heap.size w r.2 := by
  rw [run_bytes_of_string w t1 t2 e (S l) hs hd he]
  rw [S_size]
  have hge := grownCap_ge w l.length 0 e
  have hcm := grownCap_le_maxLen w l.length 0 e hl
  generalize grownCap w l.length 0 e = c at *
  have hsz : (bytesRow (S l) c).size = c := by
    simp only [bytesRow, Array.size_append, Array.size_map, Array.size_replicate]
    have : (S l).data.size = l.length := by simp [S]
    rw [this, S_size]; omega
  refine ⟨(c, _), rfl, (Own.new w.drew w.heap.size 1 e _ _ l.length c (vs l) (by rw [vs_length]; omega) hge hcm (by rw [hsz]; omega) (by simp) (fun j hj hh => ?_) (fun j v hj => ?_)).rd, ?_⟩
  · rw [hsz] at hh; simp at hh; omega
  · have hjl : j < (vs l).length := (List.getElem?_eq_some_iff.1 hj).1
    rw [vs_length] at hjl
    simp only [bytesRow]
    rw [Array.getElem?_append_left (by simp [S]; exact hjl)]
    rw [vs_get l j hjl] at hj
    injection hj with hj
    subst hj
    simp [S, List.getD, hjl]
  · exact ((Below.refl _ w).drew).alloc (by simp) _
theorem hashFnB (kind : Nat) (w : World) : Calls Tryd.prog 46 #[.int .i64 (kind : Nat)] w fun e w' => e = .returned (.func (Fn.func 70) #[] #[.pointer (some ⟨w.heap.size, 0, none⟩)]) ∧ w'.cell? ⟨w.heap.size, 0, none⟩ = some (.int .i64 (kind : Nat)) ∧ Below w.heap.size w w' := by
  go_enter Tryd.func46, Tryd.ntmps46
  go_wp2_with fail
  go_ret
  exact ⟨rfl, by simp, below_alloc _ _⟩
theorem newCbc (m b n c : Nat) (A : Option Addr) (w : World) : Calls Tryd.prog 45 #[.iface 91 (.pointer (some ⟨m, 0, none⟩)), .slice A n c, .func (Fn.func 70) #[] #[.pointer (some ⟨b, 0, none⟩)]] w fun e w' => e = .returned (.pointer (some ⟨w.heap.size, 0, none⟩)) ∧ Blk w' w.heap.size 129 (cbRow m b A n c) ∧ Below w.heap.size w w' := by
  go_enter Tryd.func45, Tryd.ntmps45
  go_wp2_with fail
  go_ret
  exact ⟨rfl, Blk.new _ _ _, below_alloc _ _⟩
theorem blk_ne {w : World} {a b : Nat} {t1 t2 : TypeId} {c1 c2 : Array Value} (h1 : Blk w a t1 c1) (h2 : Blk w b t2 c2) (h : c1.size ≠ c2.size) : a ≠ b := by
  rintro rfl
  have e := h1.symm.trans h2
  injection e with e
  injection e with e1 e2
  exact h (congrArg Array.size e1)
set_option maxHeartbeats 4000000 in
theorem implCbcOpen (key mk iv enc plain : List UInt8) (ct p : UInt8) (kind ep sq cl n D ts L : Nat) (hkd : kind < 64) (hts : toySize kind = ts) (hnk2 : mk.length ≤ 2000) (hiv : iv.length = 16) (henc : enc.length = 16 * n) (hn1 : n ≤ 500) (h16 : 16 * n = L)
    (hpl : plain.length = D) (hL : D + ts + (p.toNat + 1) = L) (hsh : cSho key n iv enc = plain ++ toyHmac kind mk (add13 ct 254 253 ep sq D ++ plain) ++ List.replicate (p.toNat + 1) p)
    (n20 : ((ct.toNat : Int) == 20) = false) (n20' : ¬ ct.toNat = 20) (n25 : ((ct.toNat : Int) == 25) = false) (n25' : ¬ ct.toNat = 25) (hep : ep < 65536) (hsq : sq < 281474976710656) (w : World)
    (v0 : w.cell? ⟨9, 0, none⟩ = some (.int .u8 254) ∧ w.cell? ⟨9, 1, none⟩ = some (.int .u8 255)) (v2 : w.cell? ⟨10, 0, none⟩ = some (.int .u8 254) ∧ w.cell? ⟨10, 1, none⟩ = some (.int .u8 253)) :
    Calls Tryd.prog 22 #[.string (S key), .string (S mk), .int .i64 (kind : Nat), .agg (rwRow ct 254 253 ep sq cl []), .string (S (iv ++ enc))] w fun e w' => e = .returned (.tuple #[.string (S plain), .bool true]) ∧ Below w.heap.size w w' := by
  have hbl : (iv ++ enc).length = 16 + L := by rw [List.length_append, hiv, henc, h16]
  have HRE := Lib.hid (fun W => record_hi ct 254 253 ep sq cl 0 [] (iv ++ enc) rfl (by omega) (by omega) (decide_eq_false (by omega)) W)
  have HDE := Lib.hid (fun g m b mb ra c ab N c1 B nk ck (hnk : mk.length = nk) (hN : 29 + L = N) (hNc : N ≤ c1) W hg hmd hb hmk ho hd1 hmb v0 v2 => cbcDec g m b mb 0 kind hkd key [] iv enc plain mk ct p ep sq cl ra c ab N c1 B n D ts nk ck L hts hnk (by omega) hiv henc hn1 h16 hpl hL hsh hN hNc n20 n20' n25 n25' hep hsq W hg hmd hb hmk ho hd1 hmb v0 v2)
  have HBA : Hid (∀ (ra c : Nat) (A : Option Addr) (cN : Nat) (hd : List UInt8) (hl : hd.length = 13) (hlt : 13 < cN) (hc : 13 + D ≤ cN) (W : World) (hr : Rd W A (vs (hd ++ plain))), Calls Tryd.prog 27 #[.agg (hwRow ct 254 253 ep sq cl (some ⟨ra, 0, none⟩) 0 c), .slice A (13 + D) cN, .nilIface] W fun e w' => e = .returned (.tuple #[.string (S plain), .bool true]) ∧ Below W.heap.size W w') := Lib.hid (fun ra c A cN hd hl hlt hc W hr => by
    obtain ⟨b, o, rfl⟩ := hr.addr (by intro e; have h1 := congrArg List.length e; rw [List.length_append, hl, List.length_nil] at h1; omega)
    exact behindAll ct ep sq cl 0 ra c b o (13 + D) cN 13 hd plain (by omega) rfl hl (by rw [hpl]) hlt hc W hr)
  have hlh : (hdOut ct 254 253 ep sq cl []).length = 13 := by rw [hdOut_length]; rfl
  obtain ⟨fc, hfc⟩ := Classical.axiomOfChoice (fun W => conv_exB (P := Tryd.prog) W 9 51 5 Tryd.underlying9 Tryd.underlying51 Tryd.underlying5 mk (by simp only [maxLen]; omega))
  have HCV := Lib.hid hfc
  have HV := Lib.hid (And.intro v0 v2)
  have HLH := Lib.hid (And.intro hlh (And.intro hbl hpl))
  have HHF := Lib.hid (fun W => hashFnB kind W)
  generalize hcs : rwRow ct 254 253 ep sq cl [] = cs at HRE ⊢
  have hi : (Tryd.prog.info? 25).map (·.size) = some cs.size := by rw [← hcs]; exact rwInfo
  clear hcs hkd hts hnk2 hiv henc hn1 h16 hpl hL hsh n20 n20' n25 n25' hep hsq v0 v2 hlh hfc hbl
  obtain ⟨body, hbody⟩ : ∃ b, iv ++ enc = b := ⟨_, rfl⟩
  rw [hbody] at HRE HDE HLH ⊢
  clear hbody
  go_enter Tryd.func22, Tryd.ntmps22
  have hg := Blk.new w 25 cs
  have hb0 := below_alloc w (.cells cs 25)
  go_wp2_with (with_reducible refine Held.load 25 ?_)
  refine held_load_row hg Tryd.underlying25 hi rfl ?_
  clear hi hg
  generalize (World.alloc w _) = w0 at *
  have HB0 := Lib.hid hb0
  clear hb0
  go_wp2_with fail
  refine (HRE.out w0).mono ?_
  rintro e w1 ⟨ra, c, A1, N, c1, rfl, hl1, hr1, ho1, hc1, hb1, hh1⟩
  have hm1 : 29 + L = N := by rw [← hl1, List.length_append, HLH.out.1, HLH.out.2.1]; omega
  obtain ⟨ab, rfl, hab⟩ : ∃ ab, A1 = some ⟨ab, 0, none⟩ ∧ w0.heap.size ≤ ab := by
    rcases hh1 with h | h
    · obtain ⟨b, o, h2⟩ := ho1.rd.addr (by intro e; have h1 := congrArg List.length e; rw [List.length_append, HLH.out.1, List.length_nil] at h1; omega)
      rw [h] at h2; cases h2
    · exact h
  have habl : ab < w1.heap.size := by
    obtain ⟨v, _, hc, _⟩ := ho1.at_ 0 (by omega)
    exact block_lt hc
  have HM1 := Lib.hid (And.intro hm1 hc1)
  have HAB := Lib.hid (And.intro hab habl)
  have HO1 := Lib.hid ho1
  have HB1 := Lib.hid (below_two HB0.out hb1)
  clear hl1 hr1 ho1 hc1 hb1 hm1 hh1 hab habl HRE
  go_wp2_with (with_reducible refine Held.store 53 ?_)
  refine held_store_new (cells := hwRow ct 254 253 ep sq cl (some ⟨ra, 0, none⟩) 0 c) hwInfo rfl rfl rfl (by simp [hwRow, Value.oneCell']) fun w2 hk hb2 hsz2 => ?_
  have HK2 := Lib.hid hk
  have HB2 := Lib.hid (below_two HB1.out hb2)
  have HO2 := Lib.hid (HO1.out.keep hb2)
  have HS2 : Hid (ab < w2.heap.size) := Lib.hid (Nat.lt_of_lt_of_le HAB.out.2 hb2.size)
  obtain ⟨y, hy⟩ : ∃ y, w1.heap.size = y := ⟨_, rfl⟩
  rw [hy] at HK2 HAB ⊢
  clear hk hb2 hsz2 HB1 HO1 hy
  go_wp2_with fail
  have hwab : w.heap.size ≤ ab := Nat.le_trans HB0.out.size HAB.out.1
  have HWA := Lib.hid hwab
  have HX : Hid (∀ w', Below w2.heap.size w2 w' → w'.cell? ⟨y, 0, none⟩ = some (.int .u8 ct.toNat) ∧ w'.cell? ⟨y, 1, none⟩ = some (.int .u16 (cl : Int)) ∧ w'.cell? ⟨y, 2, none⟩ = some (.int .u8 254) ∧ w'.cell? ⟨y, 3, none⟩ = some (.int .u8 253) ∧ w'.cell? ⟨y, 4, none⟩ = some (.int .u16 (ep : Int)) ∧ w'.cell? ⟨y, 5, none⟩ = some (.int .u64 (sq : Int)) ∧ w'.cell? ⟨y, 6, none⟩ = some (.slice (some ⟨ra, 0, none⟩) 0 c)) := Lib.hid (fun w' hb => hdc (HK2.out.keep hb))
  have hcx : ∀ W, (convert 9 51 (.string (S mk))).run Tryd.prog W = .ok (.slice (some ⟨W.heap.size, 0, none⟩) mk.length (fc W).1) (fc W).2 := fun W => (HCV.out W).1
  have hcvB : ∀ W, Below W.heap.size W (fc W).2 := fun W => (HCV.out W).2.2
  have hcvR : ∀ W n, W.heap.size = n → Rd (fc W).2 (some ⟨n, 0, none⟩) (vs mk) := fun W n h => by rw [← h]; exact (HCV.out W).2.1
  have HQN : Hid (∀ W : World, Blk (W.alloc (.cells #[.string (S key), .string { data := #[] }] 93)) W.heap.size 93 (mdRow key [])) := Lib.hid (fun W => Blk.new W _ _)
  have HZZ : Hid (∀ (g m b mb ck : Nat) (W : World), Below w2.heap.size w2 W → w2.heap.size ≤ g → w2.heap.size ≤ m → w2.heap.size ≤ b → w2.heap.size ≤ mb → Blk W g 129 (cbRow m b (some ⟨mb, 0, none⟩) mk.length ck) → Blk W m 93 (mdRow key []) → W.cell? ⟨b, 0, none⟩ = some (.int .i64 (kind : Nat)) → Rd W (some ⟨mb, 0, none⟩) (vs mk) →
      Calls Tryd.prog 47 #[.pointer (some ⟨g, 0, none⟩), .agg #[.int .u8 (ct.toNat : Int), .int .u16 (cl : Int), .int .u8 254, .int .u8 253, .int .u16 (ep : Int), .int .u64 (sq : Int), .slice (some ⟨ra, 0, none⟩) 0 c], .slice (some ⟨ab, 0, none⟩) N c1] W fun e w' => ∃ A' c' h', e = .returned (.tuple #[.slice A' (13 + D) c', .nilIface]) ∧ List.length h' = 13 ∧ 13 < c' ∧ 13 + D ≤ c' ∧ Rd w' A' (vs (h' ++ plain)) ∧ (Tch [m, ab] W w' ∧ Below w2.heap.size w2 W ∧ w2.heap.size ≤ m)) := Lib.hid (fun g m b mb ck W hW hg0 hm0 hb0 hmb0 hg hmd hb hmk => by
    have hS := HS2.out
    refine (HDE.out g m b mb ra c ab N c1 w0.heap.size mk.length ck rfl HM1.out.1 HM1.out.2 W hg hmd hb hmk (HO2.out.keep hW) ⟨blk_ne hg hmd (by simp [cbRow, mdRow]), by omega, ?_, by omega, by omega⟩ ?_ ⟨keep_of_below (below_two HB2.out hW) _ _ HV.out.1.1, keep_of_below (below_two HB2.out hW) _ _ HV.out.1.2⟩ ⟨keep_of_below (below_two HB2.out hW) _ _ HV.out.2.1, keep_of_below (below_two HB2.out hW) _ _ HV.out.2.2⟩).mono ?_
    · rintro rfl
      have h1 := (hmd.cell 0).trans (rfl : _ = some (Value.string (S key)))
      rw [h1] at hb; cases hb
    · rcases hmk with h | ⟨b', o', hA, hc⟩
      · exact .inl (by simpa [vs] using h)
      · injection hA with hA; injection hA with hA ho; subst hA ho
        cases hmk0 : mk with
        | nil => exact .inl rfl
        | cons x xs =>
          refine .inr ?_
          have h2 := hc 0 (.int .u8 x.toNat) (by rw [hmk0]; rfl)
          have h3 : mb ≠ m := by
            rintro rfl
            have h1 := (hmd.cell 0).trans (rfl : _ = some (Value.string (S key)))
            rw [h1] at h2; cases h2
          simp; omega
    · rintro e w' ⟨A', c', h', h1, h2, h3, h4, h5, h6⟩
      exact ⟨A', c', h', h1, h2, h3, h4, h5, h6, hW, hm0⟩)
  (go_region_held_law (fun w' => w'.cell? ⟨y, 0, none⟩ = some (.int .u8 ct.toNat) ∧ w'.cell? ⟨y, 1, none⟩ = some (.int .u16 (cl : Int)) ∧ w'.cell? ⟨y, 2, none⟩ = some (.int .u8 254) ∧ w'.cell? ⟨y, 3, none⟩ = some (.int .u8 253) ∧ w'.cell? ⟨y, 4, none⟩ = some (.int .u16 (ep : Int)) ∧ w'.cell? ⟨y, 5, none⟩ = some (.int .u64 (sq : Int)) ∧ w'.cell? ⟨y, 6, none⟩ = some (.slice (some ⟨ra, 0, none⟩) 0 c)) (first | exact hdc hk7 | (refine HX.out _ ?_; (repeat (first | exact Below.refl _ _ | refine below_two ?_ hb6 | refine below_two ?_ hb5 | refine below_two ?_ (hcvB _) | refine below_two ?_ (below_alloc _ _) | refine Below.drew ?_)); done)) (first
    | (go_at_call 46; (with_reducible refine (HHF.out _).mono ?_); rintro e w5 ⟨rfl, hcb5, hb5⟩; (try simp only [World.size_drew, World.size_alloc] at hcb5))
    | (go_at_call 45; (with_reducible refine (newCbc _ _ _ _ _ _).mono ?_); rintro e w6 ⟨rfl, hk6, hb6⟩; (try simp only [World.size_alloc] at hk6))
    | (go_at_call 47; (with_reducible refine (HZZ.out _ _ _ _ _ w6 (by (repeat (first | exact Below.refl _ _ | refine below_two ?_ hb6 | refine below_two ?_ hb5 | refine below_two ?_ (hcvB _) | refine below_two ?_ (below_alloc _ _) | refine Below.drew ?_))) (by (first | (refine Below.size (w := w2) (B := w2.heap.size) ?_; (repeat (first | exact Below.refl _ _ | refine below_two ?_ hb6 | refine below_two ?_ hb5 | refine below_two ?_ (hcvB _) | refine below_two ?_ (below_alloc _ _) | refine Below.drew ?_)); done) | (refine Nat.le_succ_of_le ?_; refine Below.size (w := w2) (B := w2.heap.size) ?_; (repeat (first | exact Below.refl _ _ | refine below_two ?_ hb6 | refine below_two ?_ hb5 | refine below_two ?_ (hcvB _) | refine below_two ?_ (below_alloc _ _) | refine Below.drew ?_)); done))) (by (first | (refine Below.size (w := w2) (B := w2.heap.size) ?_; (repeat (first | exact Below.refl _ _ | refine below_two ?_ hb6 | refine below_two ?_ hb5 | refine below_two ?_ (hcvB _) | refine below_two ?_ (below_alloc _ _) | refine Below.drew ?_)); done) | (refine Nat.le_succ_of_le ?_; refine Below.size (w := w2) (B := w2.heap.size) ?_; (repeat (first | exact Below.refl _ _ | refine below_two ?_ hb6 | refine below_two ?_ hb5 | refine below_two ?_ (hcvB _) | refine below_two ?_ (below_alloc _ _) | refine Below.drew ?_)); done))) (by (first | (refine Below.size (w := w2) (B := w2.heap.size) ?_; (repeat (first | exact Below.refl _ _ | refine below_two ?_ hb6 | refine below_two ?_ hb5 | refine below_two ?_ (hcvB _) | refine below_two ?_ (below_alloc _ _) | refine Below.drew ?_)); done) | (refine Nat.le_succ_of_le ?_; refine Below.size (w := w2) (B := w2.heap.size) ?_; (repeat (first | exact Below.refl _ _ | refine below_two ?_ hb6 | refine below_two ?_ hb5 | refine below_two ?_ (hcvB _) | refine below_two ?_ (below_alloc _ _) | refine Below.drew ?_)); done))) (by (first | (refine Below.size (w := w2) (B := w2.heap.size) ?_; (repeat (first | exact Below.refl _ _ | refine below_two ?_ hb6 | refine below_two ?_ hb5 | refine below_two ?_ (hcvB _) | refine below_two ?_ (below_alloc _ _) | refine Below.drew ?_)); done) | (refine Nat.le_succ_of_le ?_; refine Below.size (w := w2) (B := w2.heap.size) ?_; (repeat (first | exact Below.refl _ _ | refine below_two ?_ hb6 | refine below_two ?_ hb5 | refine below_two ?_ (hcvB _) | refine below_two ?_ (below_alloc _ _) | refine Below.drew ?_)); done))) hk6 ((HQN.out _).keep (by (repeat (first | exact Below.refl _ _ | refine below_two ?_ hb6 | refine below_two ?_ hb5 | refine below_two ?_ (hcvB _) | refine below_two ?_ (below_alloc _ _) | refine Below.drew ?_)))) (keep_of_below (by (repeat (first | exact Below.refl _ _ | refine below_two ?_ hb6 | refine below_two ?_ hb5 | refine below_two ?_ (hcvB _) | refine below_two ?_ (below_alloc _ _) | refine Below.drew ?_))) _ _ hcb5) (by first | (refine Rd.keep (hcvR w2.drew _ (World.size_drew _)) ?_; (repeat (first | exact Below.refl _ _ | refine below_two ?_ hb6 | refine below_two ?_ hb5 | refine below_two ?_ (hcvB _) | refine below_two ?_ (below_alloc _ _) | refine Below.drew ?_))) | (refine Rd.keep (hcvR (w2.alloc (.cells #[.string (S key), .string { data := #[] }] 93)).drew _ ((World.size_drew _).trans (World.size_alloc _ _))) ?_; (repeat (first | exact Below.refl _ _ | refine below_two ?_ hb6 | refine below_two ?_ hb5 | refine below_two ?_ (hcvB _) | refine below_two ?_ (below_alloc _ _) | refine Below.drew ?_))) | (refine Rd.keep (hcvR w5 _ rfl) ?_; (repeat (first | exact Below.refl _ _ | refine below_two ?_ hb6 | refine below_two ?_ hb5 | refine below_two ?_ (hcvB _) | refine below_two ?_ (below_alloc _ _) | refine Below.drew ?_))) | (refine Rd.keep (hcvR (w5.alloc (.cells #[.string (S key), .string { data := #[] }] 93)) _ (World.size_alloc _ _)) ?_; (repeat (first | exact Below.refl _ _ | refine below_two ?_ hb6 | refine below_two ?_ hb5 | refine below_two ?_ (hcvB _) | refine below_two ?_ (below_alloc _ _) | refine Below.drew ?_))))).mono ?_); rintro e w7 ⟨A7, c7, h7, rfl, hl7, hlt7, hle7, hr7, ht7, hbw, hmw⟩; have hk7 := (HK2.out.keep hbw).tch ht7 (by have := HK2.out.lt; have := HAB.out.2; simp; omega))))
  all_goals
    have HZ7 := Lib.hid (And.intro ht7 (And.intro hbw hmw))
    have HK7 := Lib.hid hk7
    have HB7 := Lib.hid (HBA.out ra c A7 c7 h7 hl7 hlt7 hle7 w7 hr7)
    clear ht7 hk6 hcb5 hb5 hb6 hk7 hbw hmw hr7 hl7 hlt7 hle7
    go_wp2_with (with_reducible refine Held.load 53 ?_)
    refine held_load_row HK7.out Tryd.underlying53 hwInfo rfl ?_
    go_wp2_with fail
    refine HB7.out.mono ?_
    rintro e w8 ⟨rfl, hb8⟩
    have HF : Hid (Below w.heap.size w w8) := Lib.hid (by
      have h1 := below_two HB2.out HZ7.out.2.1
      refine below_two (below_tchA h1 HZ7.out.1 (fun k hk => ?_) h1.size) hb8
      have h2 := HWA.out
      have h3 := HB2.out.size
      have h4 := HZ7.out.2.2
      simp at hk
      rcases hk with h | h
      · subst h; omega
      · subst h; exact h2)
    clear hb8
    go_wp2_with fail
    first | go_ret2 | go_ret
    have h9 := HF.out
    first | exact ⟨rfl, h9⟩ | exact ⟨⟨rfl, rfl⟩, h9⟩ | exact h9
end Go.Proofs.YtpedkkmoplbdhaaDoor
