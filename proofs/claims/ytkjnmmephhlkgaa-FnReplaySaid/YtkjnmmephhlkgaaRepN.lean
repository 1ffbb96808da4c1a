/- Walks: a new detector, asked and told; the library's answers number by number. -/
import Derived.Test.YtkjnmmephhlkgaaRepD
namespace Go.Proofs.Ytkjnmmephhlkgaa
open Go.RowKit Go.Cv
set_option maxRecDepth 100000
set_option linter.unusedVariables false
theorem u64info : (Try.prog.info? 22).map (fun i => (i.zero, i.size, i.bytes)) = some (some (.int .u64 0), 1, 8) := by kernel_rfl
theorem wv_zero (n : Nat) : wv (List.replicate n 0) = List.replicate n (Value.int .u64 0) := by simp [wv]
theorem msk_eq2 (W : Nat) : IntKind.u64.wrap ((2 : Int) ^ (64 - W % 64) - 1) = ((mskOf W : Nat) : Int) := by
  have h0 : 0 < 2 ^ (64 - W % 64) := Nat.pow_pos (by omega)
  have h1 : 2 ^ (64 - W % 64) ≤ 2 ^ 64 := Nat.pow_le_pow_right (by omega) (by omega)
  have e : ((2 : Int) ^ (64 - W % 64)) = ((2 ^ (64 - W % 64) : Nat) : Int) := by push_cast; rfl
  rw [e, IntKind.wrap_u64, mskOf]
  generalize (2 ^ (64 - W % 64) : Nat) = z at *
  omega
theorem msk_eq (W : Nat) : IntKind.u64.wrap (IntKind.u64.wrap ((2 : Int) ^ (64 - W % 64)) - 1) = ((mskOf W : Nat) : Int) := by
  rw [← msk_eq2, IntKind.wrap_u64, IntKind.wrap_u64, IntKind.wrap_u64]
  omega
set_option maxHeartbeats 1000000 in
theorem newFixed_any (W M c : Nat) (hz : Sized W M c) (w : World) :
    Calls Try.prog 12 #[.int .u64 (W : Nat)] w fun e w' => ∃ m r, e = .returned (.pointer (some ⟨m, 0, none⟩)) ∧ Msk w' m r c W (List.replicate c 0) ∧ Below w.heap.size w w' ∧ w.heap.size ≤ m ∧ w.heap.size ≤ r := by
  have hW1 := hz.W1
  have hW2 := hz.W2
  have e1 : ((W : Int) + 63) / 64 = (c : Int) := by have := hz.c; omega
  have e2 : IntKind.u64.wrap ((W : Int) + 63) = (W : Int) + 63 := by rw [IntKind.wrap_u64]; omega
  have c1 : ((c : Int) == 0) = false := by have := hz.c; simp; omega
  have c1' : ¬ c = 0 := by have := hz.c; omega
  have HZ := Lib.hid hz
  clear hz
  go_enter Try.func12, Try.ntmps12
  go_wp2_with fail
  refine upon_make 23 22 (.int .u64 0) 8 Try.underlying23 u64info rfl c c rfl rfl (Nat.le_refl _) (by have := HZ.out.c; omega) (by have := HZ.out.c; simp only [maxLen]; omega) ?_
  intro w1 hown hb hsz
  have hW6 : W % 64 < 64 := Nat.mod_lt _ (by omega)
  obtain ⟨p, hp⟩ : ∃ p, 64 - W % 64 = p := ⟨_, rfl⟩
  have ep : (64 : Int) - (W : Int) % 64 = (p : Int) := by omega
  have hp1 : 1 ≤ p := by omega
  have hp64 : p ≤ 64 := by omega
  have em : IntKind.u64.wrap (IntKind.u64.wrap ((2 : Int) ^ p) - 1) = ((mskOf W : Nat) : Int) := by rw [← hp]; exact msk_eq W
  have em2 : IntKind.u64.wrap ((2 : Int) ^ p - 1) = ((mskOf W : Nat) : Int) := by rw [← hp]; exact msk_eq2 W
  go_wp2_with fail
  go_ret
  exact ⟨w.heap.size + 1, w.heap.size, rfl, ⟨by have h := Blk.new w1 47 #[.slice (some ⟨w.heap.size, 0, none⟩) c c, .int .u64 (W : Nat), .int .u64 (mskOf W : Nat)]; rw [hsz] at h; exact h, by rw [wv_zero]; exact (hown.lower (Nat.zero_le _)).keep (below_alloc _ _), by simp, by omega⟩, below_two hb (below_alloc _ _), by omega, Nat.le_refl _⟩
theorem new_any (W M c : Nat) (hz : Sized W M c) (w : World) :
    Calls Try.prog 9 #[.int .u64 (W : Nat), .int .u64 (M : Nat)] w fun e w' => ∃ d m r, e = .returned (.iface 41 (.pointer (some ⟨d, 0, none⟩))) ∧ Det w' d m r c W M 0 (List.replicate c 0) ∧ Below w.heap.size w w' ∧ (w.heap.size ≤ d ∧ w.heap.size ≤ m ∧ w.heap.size ≤ r) := by
  have HN := Lib.hid (newFixed_any W M c hz w)
  have HC := Lib.hid hz
  clear hz
  go_enter Try.func9, Try.ntmps9
  go_wp2_with fail
  refine HN.out.mono ?_
  rintro e w1 ⟨m, r, rfl, hm, hb, ge1, ge2⟩
  go_wp2_with fail
  go_ret
  have hmlt := hm.blk.lt
  have hrlt : r < w1.heap.size := by
    have := HC.out.c
    have := HC.out.W1
    exact block_lt (hm.at_ 0 (by omega)).1
  exact ⟨w1.heap.size, m, r, rfl, ⟨Blk.new _ _ _, hm.keep (below_alloc _ _), by omega, by omega⟩, below_two hb (below_alloc _ _), hb.size, ge1, ge2⟩
theorem checkM_any (d m r c W M l n : Nat) (ws : List Nat) (hz : Sized W M c) (hl : l ≤ M) (hn : n < 18446744073709551616) (hs : ∀ x ∈ ws, x < 2 ^ 64) (w : World) (h : Det w d m r c W M l ws) :
    Calls Try.prog 28 #[.pointer (some ⟨d, 0, none⟩), .int .u64 (n : Nat)] w fun e w' => ∃ F, e = .returned (.tuple #[F, .bool (frI W M l ws n)]) ∧ Below w.heap.size w w' ∧
      (frI W M l ws n = true → ∃ a b, F = .func (Fn.func 32) #[] #[.pointer (some ⟨a, 0, none⟩), .pointer (some ⟨b, 0, none⟩)] ∧ w'.cell? ⟨a, 0, none⟩ = some (.pointer (some ⟨d, 0, none⟩)) ∧ w'.cell? ⟨b, 0, none⟩ = some (.int .u64 (n : Nat))) := by
  have hmf : ∀ (fn : Fn) (first cap : Array Value) (w : World), (Instr.makeFunc fn first cap).run Try.prog w = .ok (.func fn first cap) w := fun _ _ _ _ => rfl
  have hb2 := below_two (below_alloc w (.cells #[.pointer (some ⟨d, 0, none⟩)] 41)) (below_alloc (w.alloc (.cells #[.pointer (some ⟨d, 0, none⟩)] 41)) (.cells #[.int .u64 (n : Nat)] 22))
  have HC := Lib.hid (check_any d m r c W M l n ws hz hl hn hs _ (h.keep hb2))
  have HB := Lib.hid hb2
  have k1 := ((Blk.new w 41 #[.pointer (some ⟨d, 0, none⟩)]).alloc (.cells #[.int .u64 (n : Nat)] 22)).cell 0
  have k2 := (Blk.new (w.alloc (.cells #[.pointer (some ⟨d, 0, none⟩)] 41)) 22 #[.int .u64 (n : Nat)]).cell 0
  rw [World.size_alloc] at k2
  have HK := Lib.hid (And.intro k1 k2)
  clear hz hl hn hs h hb2 k1 k2
  go_enter Try.func28, Try.ntmps28
  go_wp2_with fail
  refine HC.out.mono ?_
  rintro e w1 ⟨rfl, hb1⟩
  have HB1 := Lib.hid (below_two HB.out hb1)
  have HK1 := Lib.hid (And.intro (keep_of_below hb1 _ _ (HK.out.1.trans rfl)) (keep_of_below hb1 _ _ (HK.out.2.trans rfl)))
  clear hb1 HC
  cases hf : frI W M l ws n with
  | true =>
    go_wp2_with fail
    go_ret2
    exact ⟨_, by rw [hf]; rfl, HB1.out, fun _ => ⟨_, _, rfl, HK1.out.1, HK1.out.2⟩⟩
  | false =>
    go_wp2_with fail
    go_ret2
    exact ⟨_, by rw [hf]; rfl, HB1.out, fun h => by rw [hf] at h; cases h⟩
theorem boolinfo : (Try.prog.info? 4).map (fun i => (i.zero, i.size, i.bytes)) = some (some (.bool false), 1, 1) := by kernel_rfl
theorem take_any (d m r c W M n a b : Nat) (s : Nat × List Nat) (ws : List Nat) (hz : Sized W M c) (hr : Rep W ws s) (hl : s.1 ≤ M) (hn : n ≤ M) (hf : fr W M s n = true) (w : World) (h : Det w d m r c W M s.1 ws)
    (ha : w.cell? ⟨a, 0, none⟩ = some (.pointer (some ⟨d, 0, none⟩))) (hb : w.cell? ⟨b, 0, none⟩ = some (.int .u64 (n : Nat))) :
    Calls Try.prog 32 #[.pointer (some ⟨a, 0, none⟩), .pointer (some ⟨b, 0, none⟩)] w fun e w' => (∃ b, e = .returned (.bool b)) ∧ Det w' d m r c W M (tk s n).1 (tkI W s.1 ws n) ∧ Tch [d, m, r] w w' := by
  have HA := Lib.hid (accept_any d m r c W M n s ws hz hr hl hn hf w h)
  clear hz hr hl hn hf h
  go_enter Try.func32, Try.ntmps32
  go_wp2_with fail
  refine HA.out.mono ?_
  rintro e w1 ⟨⟨b, rfl⟩, h1, h2⟩
  go_wp2_with fail
  go_ret
  exact ⟨⟨_, rfl⟩, h1, h2⟩
def bv (l : List Bool) : List Value := l.map fun b => Value.bool b
theorem bv_length (l : List Bool) : (bv l).length = l.length := by simp [bv]
theorem bv_snoc (l : List Bool) (b : Bool) : bv l ++ [Value.bool b] = bv (l ++ [b]) := by simp [bv]
theorem bv_at {w : World} {b o : Nat} {l : List Bool} (h : Rd w (some ⟨b, o, none⟩) (bv l)) (j : Nat) (hj : j < l.length) : w.cell? ⟨b, o + j, none⟩ = some (.bool (l.getD j false)) := by
  have e : (bv l)[j]? = some (.bool (l.getD j false)) := by simp [bv, List.getD, hj]
  rcases h with h | ⟨b', o', hA, h⟩
  · rw [h] at e; simp at e
  · injection hA with hA; injection hA with h1 h2; subst h1 h2
    exact h j _ e
theorem wv_rd {w : World} {b o : Nat} {l : List Nat} (h : Rd w (some ⟨b, o, none⟩) (wv l)) (j : Nat) (hj : j < l.length) : w.cell? ⟨b, o + j, none⟩ = some (.int .u64 (l.getD j 0 : Nat)) := by
  have e := wv_at l j hj
  rcases h with h | ⟨b', o', hA, h⟩
  · rw [h] at e; simp at e
  · injection hA with hA; injection hA with h1 h2; subst h1 h2
    exact h j _ e
theorem rst_le {W M : Nat} (hW : 1 ≤ W) (zs : List Nat) (fs : List Bool) (j : Nat) : (rst W M zs fs j).1 ≤ M := by
  induction j with
  | zero => simp [rst]
  | succ i ih =>
    rw [rst]
    split
    · rename_i h
      simp only [Bool.and_eq_true] at h
      have hf := h.1
      unfold fr at hf
      by_cases hM : M < zs.getD i 0
      · rw [if_pos hM] at hf; cases hf
      · unfold tk
        split
        · exact Nat.le_of_not_lt hM
        · exact ih
    · exact ih
theorem fr_le {W M n : Nat} {s : Nat × List Nat} (h : fr W M s n = true) : n ≤ M := by
  unfold fr at h
  by_cases hM : M < n
  · rw [if_pos hM] at h; cases h
  · omega
theorem getD_mem_lt {l : List Nat} {B : Nat} (h : ∀ z ∈ l, z < B) (j : Nat) (hj : j < l.length) : l.getD j 0 < B := by
  rw [List.getD_eq_getElem?_getD, List.getElem?_eq_getElem hj]
  exact h _ (List.getElem_mem hj)
/-- Where the library stands behind j numbers. -/
structure RepR (w1 w : World) (d m r c W M : Nat) (zs : List Nat) (fs : List Bool) (i j : Nat) (A : Option Addr) (cA : Nat) (ws : List Nat) : Prop where
  hi : Hi w1.heap.size A
  own : Own w w1.heap.size 1 A i cA (bv (rout W M zs fs i))
  det : Det w d m r c W M (rst W M zs fs j).1 ws
  rep : Rep W ws (rst W M zs fs j)
  tch : Tch [d, m, r] w1 w
theorem RepR.keep {w1 w w' : World} {d m r c W M : Nat} {zs : List Nat} {fs : List Bool} {i j : Nat} {A : Option Addr} {cA : Nat} {ws : List Nat} (h : RepR w1 w d m r c W M zs fs i j A cA ws) (hb : Below w.heap.size w w') : RepR w1 w' d m r c W M zs fs i j A cA ws :=
  ⟨h.hi, h.own.keep hb, h.det.keep hb, h.rep, h.tch.then (Tch.below hb []) (by simp)⟩
theorem RepR.app {w1 w w9 : World} {d m r c W M : Nat} {zs : List Nat} {fs : List Bool} {j : Nat} {A A2 : Option Addr} {cA c2 : Nat} {ws : List Nat} {ob : Obj} {v : Bool} (h : RepR w1 w d m r c W M zs fs j (j + 1) A cA ws)
    (hd : d < w1.heap.size) (hm : m < w1.heap.size) (hr : r < w1.heap.size) (hv : fr W M (rst W M zs fs j) (zs.getD j 0) = v) (hO : Own w9 w1.heap.size 1 A2 (j + 1) c2 (bv (rout W M zs fs j) ++ [Value.bool v]))
    (hg : (w.alloc ob).grownBy w9 (A.map (·.block))) (hor : (A2 = A ∧ c2 = cA) ∨ A2 = some ⟨(w.alloc ob).heap.size, 0, none⟩) : RepR w1 w9 d m r c W M zs fs (j + 1) (j + 1) A2 c2 ws := by
  have t9 : Tch (A.map (·.block)).toList w w9 := ((Tch.alloc w ob).more (by simp)).trans (Tch.grown hg)
  have hs := h.tch.size
  refine ⟨h.hi.new hor (by simp; omega), ?_, h.det.tch t9 (h.hi.notin hd) (h.hi.notin hm) (h.hi.notin hr), h.rep, h.tch.then t9 (fun k hk => .inr (h.hi.inn k hk))⟩
  rw [rout_next, hv, ← bv_snoc]
  exact hO
theorem RepR.stay {w1 w : World} {d m r c W M : Nat} {zs : List Nat} {fs : List Bool} {j : Nat} {A : Option Addr} {cA : Nat} {ws : List Nat} (h : RepR w1 w d m r c W M zs fs j j A cA ws) (hn : (fr W M (rst W M zs fs j) (zs.getD j 0) && fs.getD j false) = false) : RepR w1 w d m r c W M zs fs j (j + 1) A cA ws := by
  have e : rst W M zs fs (j + 1) = rst W M zs fs j := by rw [rst, hn]; simp
  refine ⟨h.hi, h.own, ?_, ?_, h.tch⟩
  · rw [e]; exact h.det
  · rw [e]; exact h.rep
theorem RepR.take {w1 w w2 : World} {d m r c W M : Nat} {zs : List Nat} {fs : List Bool} {j : Nat} {A : Option Addr} {cA : Nat} {ws : List Nat} (h : RepR w1 w d m r c W M zs fs j j A cA ws) (hz : Sized W M c) (hd : d < w1.heap.size) (hm : m < w1.heap.size) (hr : r < w1.heap.size)
    (hf : fr W M (rst W M zs fs j) (zs.getD j 0) = true) (ha : fs.getD j false = true) (h1 : Det w2 d m r c W M (tk (rst W M zs fs j) (zs.getD j 0)).1 (tkI W (rst W M zs fs j).1 ws (zs.getD j 0))) (h2 : Tch [d, m, r] w w2) :
    RepR w1 w2 d m r c W M zs fs j (j + 1) A cA (tkI W (rst W M zs fs j).1 ws (zs.getD j 0)) := by
  have e : rst W M zs fs (j + 1) = tk (rst W M zs fs j) (zs.getD j 0) := by rw [rst, hf, ha]; simp
  have hrt := (rep_take h.rep hz.W1 hz.W3 (zs.getD j 0) hf).1
  refine ⟨h.hi, h.own.tch h2 (h.hi.away (by simp; omega)), ?_, ?_, h.tch.trans h2⟩
  · rw [e]; exact h1
  · rw [e]; exact hrt
set_option maxHeartbeats 2000000 in
theorem replay_any (W M c b o n cc b2 o2 c2 : Nat) (zs : List Nat) (fs : List Bool) (hz : Sized W M c) (hl : zs.length = n) (hla : fs.length = n) (hn : n ≤ 300) (hzs : ∀ z ∈ zs, z < 18446744073709551616) (w : World) (hr : Rd w (some ⟨b, o, none⟩) (wv zs)) (hr2 : Rd w (some ⟨b2, o2, none⟩) (bv fs)) :
    Calls Try.prog 5 #[.int .i64 (W : Nat), .int .u64 (M : Nat), .slice (some ⟨b, o, none⟩) n cc, .slice (some ⟨b2, o2, none⟩) n c2] w fun e w' => ∃ A c', e = .returned (.slice A n c') ∧ Rd w' A (bv (rout W M zs fs n)) ∧ Below w.heap.size w w' := by
  have HR := Lib.hid hr
  have HR2 := Lib.hid hr2
  have HL := Lib.hid hl
  have HLA := Lib.hid hla
  have HN := Lib.hid hn
  have HZ := Lib.hid hz
  have HZS := Lib.hid hzs
  have HNW := Lib.hid (new_any W M c hz w)
  have ew : IntKind.u64.wrap (W : Int) = (W : Int) := by have := hz.W2; rw [IntKind.wrap_u64]; omega
  have hW2 := hz.W2
  clear hr hr2 hl hla hn hz hzs
  go_enter Try.func5, Try.ntmps5
  go_wp2_with fail
  refine HNW.out.mono ?_
  rintro e w1 ⟨d, m, r, rfl, hd, hb1, hge⟩
  have ld := hd.blk.lt
  have lm := hd.msk.blk.lt
  have lr : r < w1.heap.size := block_lt (hd.msk.at_ 0 (by have := HZ.out.c; have := HZ.out.W1; omega)).1
  have HLT := Lib.hid (And.intro ld (And.intro lm lr))
  have HD := Lib.hid hd
  have HB1 := Lib.hid hb1
  have HGE := Lib.hid hge
  clear hd hb1 HNW ld lm lr hge ew hW2
  go_wp2_with fail
  go_loopw [10, 21] (fun v i wr => ∃ j : Nat, j ≤ n ∧ i = .int .i64 j ∧ ∃ ws A' c', v = .slice A' j c' ∧ Hid (RepR w1 wr d m r c W M zs fs j j A' c' ws)) (fun _ i _ => n - (intOf i).toNat)
  case atStart => exact ⟨0, Nat.zero_le _, rfl, List.replicate c 0, none, 0, rfl, Lib.hid ⟨.inl rfl, by simpa [rout, bv] using Own.nil w1 w1.heap.size 1, HD.out, by have := rep_nil W; rw [← HZ.out.c] at this; exact this, Tch.refl _ _⟩⟩
  case round =>
    obtain ⟨j, hj, rfl, ws, A', c', rfl, HRR⟩ := hrel
    have HBW : Hid (Below w.heap.size w wr) := Lib.hid (((Tch.below HB1.out []).then HRR.out.tch (fun k hk => .inr (by have := HGE.out; simp at hk; omega))).toBelow (Nat.le_refl _))
    by_cases hlt : j < n
    · obtain ⟨z, hz⟩ : ∃ z, zs.getD j 0 = z := ⟨_, rfl⟩
      have hzb := getD_mem_lt HZS.out j (by rw [HL.out]; exact hlt)
      have c0 := wv_rd (HR.out.keep HBW.out) j (by rw [HL.out]; exact hlt)
      rw [hz] at c0 hzb
      obtain ⟨ac, hac⟩ : ∃ z, fs.getD j false = z := ⟨_, rfl⟩
      have HCK := Lib.hid (checkM_any d m r c W M (rst W M zs fs j).1 z ws HZ.out (rst_le HZ.out.W1 zs fs j) hzb HRR.out.rep.small wr HRR.out.det)
      rw [fr_eq HRR.out.rep HZ.out.W1 z] at HCK
      have jw : wrap64 ((j : Int) + 1) = (j : Int) + 1 := by have := HN.out; unfold wrap64; omega
      have t1 : decide ((n : Int) ≤ j) = false := by simp; omega
      have t1' : ¬ n ≤ j := by omega
      have HJ : Hid (j + 1 ≤ 300) := Lib.hid (by have := HN.out; omega)
      have HZJ := Lib.hid hz
      have HAC := Lib.hid hac
      clear hz hac hzb
      cases hfv : fr W M (rst W M zs fs j) z with
      | true =>
        have HFV := Lib.hid hfv
        rw [hfv] at HCK
        clear hfv
        go_wp2_with fail
        refine HCK.out.mono ?_
        rintro e w2 ⟨F, rfl, hb2, hF⟩
        obtain ⟨pa, pb, rfl, ka, kb⟩ := hF (by trivial)
        have HR2' := Lib.hid (HRR.out.keep hb2)
        have d0 := bv_at (HR2.out.keep (below_two HBW.out hb2)) j (by rw [HLA.out]; exact hlt)
        rw [HAC.out] at d0
        have HTK := Lib.hid (fun hmz => take_any d m r c W M z pa pb (rst W M zs fs j) ws HZ.out HR2'.out.rep (rst_le HZ.out.W1 zs fs j) hmz HFV.out w2 HR2'.out.det ka kb)
        clear hb2 hF ka kb HCK c0
        cases ac with
        | true =>
          go_wp2_with fail
          refine (HTK.out (fr_le HFV.out)).mono ?_
          rintro e w3 ⟨⟨bb, rfl⟩, h1, h2⟩
          have HR3 := Lib.hid (HR2'.out.take HZ.out HLT.out.1 HLT.out.2.1 HLT.out.2.2 (by rw [HZJ.out]; exact HFV.out) HAC.out (by rw [HZJ.out]; exact h1) h2)
          clear h1 h2 HTK d0
          go_wp2_with (at_builtin; refine Held.on ?_)
          refine held_append rfl (.tmp 47) (.tmp 49) 24 24 rfl w1.heap.size 4 _ 1 1 Try.underlying24 (.inl Try.underlying24) boolinfo rfl (by omega) (xs := bv (rout W M zs fs j)) (ys := [.bool true]) rfl rfl (HR3.out.own.keep (below_alloc _ _)) ⟨rfl, by intro v h; simp at h; subst h; rfl, .inl ⟨_, _, rfl, rd_single _ _ _⟩⟩ (by have := HJ.out; omega) (by have := HJ.out; simp only [maxLen]; omega) (by have := HR3.out.tch.size; simp; omega) ?_
          intro A2 c3 w9 hO9 hg9 hor9
          have HR9 := Lib.hid (HR3.out.app HLT.out.1 HLT.out.2.1 HLT.out.2.2 (by rw [HZJ.out]; exact HFV.out) hO9 hg9 hor9)
          clear hO9 hg9 hor9
          go_wp2_with fail
          go_roundw
          case rel => exact ⟨j + 1, hlt, by rw [jw]; go_num, _, A2, c3, rfl, HR9⟩
          case measure => rw [jw]; simp [intOf]; omega
        | false =>
          have HR3 := Lib.hid (HR2'.out.stay (by rw [HAC.out, Bool.and_false]))
          clear HTK
          go_wp2_with (at_builtin; refine Held.on ?_)
          refine held_append rfl (.tmp 47) (.tmp 49) 24 24 rfl w1.heap.size 4 _ 1 1 Try.underlying24 (.inl Try.underlying24) boolinfo rfl (by omega) (xs := bv (rout W M zs fs j)) (ys := [.bool true]) rfl rfl (HR3.out.own.keep (below_alloc _ _)) ⟨rfl, by intro v h; simp at h; subst h; rfl, .inl ⟨_, _, rfl, rd_single _ _ _⟩⟩ (by have := HJ.out; omega) (by have := HJ.out; simp only [maxLen]; omega) (by have := HR3.out.tch.size; simp; omega) ?_
          intro A2 c3 w9 hO9 hg9 hor9
          have HR9 := Lib.hid (HR3.out.app HLT.out.1 HLT.out.2.1 HLT.out.2.2 (by rw [HZJ.out]; exact HFV.out) hO9 hg9 hor9)
          clear hO9 hg9 hor9
          go_wp2_with fail
          go_roundw
          case rel => exact ⟨j + 1, hlt, by rw [jw]; go_num, _, A2, c3, rfl, HR9⟩
          case measure => rw [jw]; simp [intOf]; omega
      | false =>
        have HFV := Lib.hid hfv
        rw [hfv] at HCK
        clear hfv
        go_wp2_with fail
        refine HCK.out.mono ?_
        rintro e w2 ⟨F, rfl, hb2, hF⟩
        have HR2' := Lib.hid (HRR.out.keep hb2)
        have HR3 := Lib.hid (HR2'.out.stay (by rw [HZJ.out, HFV.out, Bool.false_and]))
        clear hb2 hF HCK c0
        go_wp2_with (at_builtin; refine Held.on ?_)
        refine held_append rfl (.tmp 47) (.tmp 49) 24 24 rfl w1.heap.size 4 _ 1 1 Try.underlying24 (.inl Try.underlying24) boolinfo rfl (by omega) (xs := bv (rout W M zs fs j)) (ys := [.bool false]) rfl rfl (HR3.out.own.keep (below_alloc _ _)) ⟨rfl, by intro v h; simp at h; subst h; rfl, .inl ⟨_, _, rfl, rd_single _ _ _⟩⟩ (by have := HJ.out; omega) (by have := HJ.out; simp only [maxLen]; omega) (by have := HR3.out.tch.size; simp; omega) ?_
        intro A2 c3 w9 hO9 hg9 hor9
        have HR9 := Lib.hid (HR3.out.app HLT.out.1 HLT.out.2.1 HLT.out.2.2 (by rw [HZJ.out]; exact HFV.out) hO9 hg9 hor9)
        clear hO9 hg9 hor9
        go_wp2_with fail
        go_roundw
        case rel => exact ⟨j + 1, hlt, by rw [jw]; go_num, _, A2, c3, rfl, HR9⟩
        case measure => rw [jw]; simp [intOf]; omega
    · obtain rfl : j = n := by omega
      go_wp2_with fail
      go_ret
      exact ⟨A', c', rfl, HRR.out.own.rd, HBW.out⟩
end Go.Proofs.Ytkjnmmephhlkgaa
