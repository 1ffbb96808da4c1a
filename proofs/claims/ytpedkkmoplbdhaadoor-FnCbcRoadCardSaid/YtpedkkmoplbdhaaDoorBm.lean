/- Walks: the reader of a chain of blocks. -/
import Derived.Test.YtpedkkmoplbdhaaDoorBx
import Derived.Lib.LazyBuf
import Derived.Deep.RegionHeldLaw
import Derived.StillTailTactics
namespace Go.Proofs.YtpedkkmoplbdhaaDoor
open Go.RowKit Go.Cv
set_option maxRecDepth 100000
set_option linter.unusedVariables false
theorem held_copy_str {P : Program} {ops : Array Oper} {rest : List Oper} {o : Oper} {a : Act} {Q : Exit → Act → World → Prop} {w : World} (hgd : o.guard = none) (d s : Operand) (t u : TypeId) (ho : o.op = .call { callee := .builtin .copy, args := #[d, s], argTypes := #[t, u] })
    (B e : Nat) (ht : P.underlying t = some (.slice e)) (hi : (P.info? e).map (·.size) = some 1) {b o' k p n c n' c' m : Nat} {xs : List Value} {l : List UInt8} (hp : p = o' + k)
    (hd : a.eval d = .slice (some ⟨b, p, none⟩) n' c') (hs : a.eval s = .string (S l)) (hown : Own w B 1 (some ⟨b, o', none⟩) n c xs) (hm : l.length = m) (hle : m ≤ n') (hk : k + m ≤ n)
    (h : ∀ w', Own w' B 1 (some ⟨b, o', none⟩) n c (xs.take k ++ (vs l ++ xs.drop (k + m))) → w.grownBy w' (some b) → wpList P ops Q rest (a.put o.dst (goInt m)) w') :
    Held (wpList P ops Q (o :: rest) a w) := by
  subst hp hm
  refine held (wpList_plain hgd fun K hK => ?_)
  have hz : ∀ w, (Go.sizeOf e).run P w = .ok 1 w := by
    intro w
    cases hq : P.info? e with
    | none => simp [hq] at hi
    | some i =>
      have h1 : i.size = 1 := by simpa [hq] using hi
      simp [sizeOf, typeInfo, hq, h1]
  have hcs : ∀ j, j < (S l).size → (w.cell? ⟨b, o' + k + j, none⟩).isSome = true := fun j hj => by
    rw [S_size] at hj
    obtain ⟨v, _, hc, _⟩ := hown.at_ (k + j) (by omega)
    rw [Nat.add_assoc, hc]; rfl
  have hfs : ∀ j, j < (S l).size → w.frozen? ⟨b, o' + k + j, none⟩ = false := fun j hj => by
    rw [S_size] at hj
    obtain ⟨v, _, _, hf⟩ := hown.at_ (k + j) (by omega)
    rw [Nat.add_assoc]; exact hf
  have hrun := run_copy_string (P := P) w t u o.type e b (o' + k) n' c' (S l) ht hz (by rw [S_size]; exact hle) hcs hfs
  rw [S_size, S_data] at hrun
  have hO := hown.setCells (vs l) k (by rw [vs_length]; exact hk)
  rw [vs_length] at hO
  unfold Oper.wp
  simp [execOp, ho, resolve, invoke, builtin, hd, hs, hrun, Result.andThen]
  exact hK _ _ (h _ hO (grownBy_setCells w b (o' + k) (vs l)))
theorem step_copy_str {P : Program} {ops : Array Oper} {o : Oper} {a : Act} {w : World} {K : Act → World → Prop} {Q : Exit → Act → World → Prop} {E : Prop} (hgd : o.guard = none) (d s : Operand) (t u : TypeId) (ho : o.op = .call { callee := .builtin .copy, args := #[d, s], argTypes := #[t, u] })
    (B e : Nat) (ht : P.underlying t = some (.slice e)) (hi : (P.info? e).map (·.size) = some 1) {b o' k p n c n' c' m : Nat} {xs : List Value} {l : List UInt8} (hp : p = o' + k)
    (hd : a.eval d = .slice (some ⟨b, p, none⟩) n' c') (hs : a.eval s = .string (S l)) (hown : Own w B 1 (some ⟨b, o', none⟩) n c xs) (hm : l.length = m) (hle : m ≤ n') (hk : k + m ≤ n)
    (h : ∀ w', Own w' B 1 (some ⟨b, o', none⟩) n c (xs.take k ++ (vs l ++ xs.drop (k + m))) → w.grownBy w' (some b) → K (a.put o.dst (goInt m)) w') :
    if Region.wanted o (yielded ops a.tmps) = true then Oper.wp P o a w K Q else E := by
  have hw : Region.wanted o (yielded ops a.tmps) = true := by simp [Region.wanted, hgd]
  rw [if_pos hw]
  subst hp hm
  have hz : ∀ w, (Go.sizeOf e).run P w = .ok 1 w := by
    intro w
    cases hq : P.info? e with
    | none => simp [hq] at hi
    | some i =>
      have h1 : i.size = 1 := by simpa [hq] using hi
      simp [sizeOf, typeInfo, hq, h1]
  have hcs : ∀ j, j < (S l).size → (w.cell? ⟨b, o' + k + j, none⟩).isSome = true := fun j hj => by
    rw [S_size] at hj
    obtain ⟨v, _, hc, _⟩ := hown.at_ (k + j) (by omega)
    rw [Nat.add_assoc, hc]; rfl
  have hfs : ∀ j, j < (S l).size → w.frozen? ⟨b, o' + k + j, none⟩ = false := fun j hj => by
    rw [S_size] at hj
    obtain ⟨v, _, _, hf⟩ := hown.at_ (k + j) (by omega)
    rw [Nat.add_assoc]; exact hf
  have hrun := run_copy_string (P := P) w t u o.type e b (o' + k) n' c' (S l) ht hz (by rw [S_size]; exact hle) hcs hfs
  rw [S_size, S_data] at hrun
  have hO := hown.setCells (vs l) k (by rw [vs_length]; exact hk)
  rw [vs_length] at hO
  unfold Oper.wp
  simp [execOp, ho, resolve, invoke, builtin, hd, hs, hrun, Result.andThen]
  exact h _ hO (grownBy_setCells w b (o' + k) (vs l))
theorem at_copyS {P : Program} {ops : Array Oper} {rest : List Oper} {dst : Option Nat} {ar : Array Operand} {ts : Array TypeId} {ty : TypeId} {ps : String} {af} {g} {a : Act} {Q : Exit → Act → World → Prop} {w : World}
    (h : Held (wpList P ops Q (⟨dst, .call { callee := .builtin .copy, args := ar, argTypes := ts }, ty, ps, af, g⟩ :: rest) a w)) : wpList P ops Q (⟨dst, .call { callee := .builtin .copy, args := ar, argTypes := ts }, ty, ps, af, g⟩ :: rest) a w := Held.on h
theorem modeSize (m : Nat) (w : World) : Calls Tryd.prog 127 #[.pointer (some ⟨m, 0, none⟩)] w fun e w' => e = .returned (.int .i64 16) ∧ w = w' := by
  go_enter Tryd.func127, Tryd.ntmps127
  go_wp2_with fail
  go_ret
  exact ⟨rfl, rfl⟩
def mdRow (key iv : List UInt8) : Array Value := #[.string (S key), .string (S iv)]
theorem modeIV (m : Nat) (key iv l : List UInt8) (A : Option Addr) (n c : Nat) (hn : l.length = n) (w : World) (hm : Blk w m 93 (mdRow key iv)) (hr : Rd w A (vs l)) :
    Calls Tryd.prog 129 #[.pointer (some ⟨m, 0, none⟩), .slice A n c] w fun e w' => e = .returned (.tuple #[]) ∧ Blk w' m 93 (mdRow key l) ∧ Tch [m] w w' := by
  have c1 := (hm.cell 1).trans (rfl : _ = some (Value.string (S iv)))
  have f1 := hm.frozen 1
  have HM := Lib.hid hm
  clear hm
  go_enter Tryd.func129, Tryd.ntmps129
  go_wp2_with fail
  refine upon_conv_bs 51 9 5 Tryd.underlying51 Tryd.underlying5 Tryd.underlying9 l A n c hn hr ?_
  go_wp2_with fail
  go_end0
  have hk := HM.out.set_ 1 (.string (S l))
  exact ⟨rfl, by simpa [mdRow] using hk, Tch.set _ _ _ _⟩
set_option maxHeartbeats 1000000 in
theorem modeCrypt (m : Nat) (key iv s : List UInt8) (n L b k p N c c1 B : Nat) (xs : List Value) (hiv : iv.length = 16) (hs : s.length = 16 * n) (h0 : 0 < n) (hn3 : n ≤ 1000) (hL : 16 * n = L) (hp : p = 0 + k) (hkn : k + L ≤ N) (w : World) (hm : Blk w m 93 (mdRow key iv)) (hmb : m ≠ b) (ho : Own w B 1 (some ⟨b, 0, none⟩) N c xs) (hr : Rd w (some ⟨b, p, none⟩) (vs s)) :
    Calls Tryd.prog 128 #[.pointer (some ⟨m, 0, none⟩), .slice (some ⟨b, p, none⟩) L c1, .slice (some ⟨b, p, none⟩) L c1] w fun e w' => e = .returned (.tuple #[]) ∧ Own w' B 1 (some ⟨b, 0, none⟩) N c (xs.take k ++ (vs (cSho key n iv s) ++ xs.drop (k + L))) ∧ Tch [m, b] w w' := by
  have HUN := Lib.hid (fun W => t_unchain key iv s n hiv hs hn3 W)
  have hls : s.length = L := by rw [hs, hL]
  have hz : (S s).size = L := by rw [S_size, hls]
  have q0 : w.drew.cell? ⟨m, 0, none⟩ = some (.string (S key)) := (hm.cell 0).trans rfl
  have q1 : w.drew.cell? ⟨m, 1, none⟩ = some (.string (S iv)) := (hm.cell 1).trans rfl
  have HM := Lib.hid hm
  have HO := Lib.hid ho
  have HN := Lib.hid (And.intro h0 (And.intro hn3 (And.intro hL (And.intro hp (And.intro hkn hmb)))))
  have HCL := Lib.hid (cSho_length key n iv s)
  obtain ⟨out, hout⟩ : ∃ o, cSho key n iv s = o := ⟨_, rfl⟩
  rw [hout] at HUN HCL ⊢
  clear hiv hs h0 hn3 hL hp hkn hm hmb ho hout
  go_enter Tryd.func128, Tryd.ntmps128
  go_wp2_with fail
  refine upon_conv_bs 51 9 5 Tryd.underlying51 Tryd.underlying5 Tryd.underlying9 s _ L c1 hls hr ?_
  clear hr
  go_wp2_with fail
  have HOD : Hid (Own w.drew B 1 (some ⟨b, 0, none⟩) N c xs) := Lib.hid (HO.out.keep (below_drew w))
  have HMD : Hid (Blk w.drew m 93 (mdRow key iv)) := Lib.hid (HM.out.keep (below_drew w))
  have HTD : Hid (Tch [m, b] w w.drew) := Lib.hid (Tch.below (below_drew w) _)
  go_region_held_law (fun w' => w'.cell? ⟨m, 0, none⟩ = some (.string (S key)) ∧ w'.cell? ⟨m, 1, none⟩ = some (.string (S iv))) (first | exact ⟨q0, q1⟩ | exact ⟨keep_of_below hb2 _ _ q0, keep_of_below hb2 _ _ q1⟩ | exact ⟨(hm3.cell 0).trans rfl, (hm3.cell 1).trans rfl⟩) (first
    | (go_at_call 130; (with_reducible refine (HUN.out _).mono ?_); rintro e w2 ⟨rfl, hb2⟩)
    | (refine step_copy_str rfl (.tmp 9) (.tmp 19) 51 9 rfl B 5 Tryd.underlying51 (by kernel_rfl) HN.out.2.2.2.1 rfl rfl (HOD.out.keep hb2) (m := L) (by rw [HCL.out]; exact HN.out.2.2.1) (Nat.le_refl _) HN.out.2.2.2.2.1 ?_; intro w3 hO3 hg3; have hm3 := (HMD.out.keep hb2).tch (Tch.grown hg3) (by have := HN.out.2.2.2.2.2; simpa using this)))
  have HT2 : Hid (Tch [m, b] w w2) := Lib.hid (HTD.out.trans (Tch.below hb2 _))
  have HO3 := Lib.hid hO3
  have HT3 : Hid (Tch [m, b] w w3) := Lib.hid (HT2.out.trans ((Tch.grown hg3).more (by simp)))
  have c1' := (hm3.cell 1).trans (rfl : _ = some (Value.string (S iv)))
  have f1 := hm3.frozen 1
  have HM3 := Lib.hid hm3
  clear hO3 hg3 hm3 hb2 HOD HMD HTD HT2 q0 q1
  obtain ⟨q, hq⟩ : ∃ q, L - 16 = q := ⟨_, rfl⟩
  have i0 : decide ((16 : Int) ≤ L) = true := decide_eq_true (by have := HN.out; omega)
  have i1 : (16 : Int) ≤ L := by have := HN.out; omega
  have i2 : (L : Int) - 16 = (q : Int) := by omega
  have i3 : (q : Int) ≤ L := by omega
  have Hg1 : Hid (IntKind.i64.wrap (q : Int) = (q : Int)) := Lib.hid (i64_nat q (by have := HN.out; omega))
  have Hg2 : Hid (wrap64 (q : Int) = (q : Int)) := Lib.hid (by have := HN.out; unfold wrap64; omega)
  have hex : (S s).extract q L = S ((s.take L).drop q) := S_extract _ _ _
  clear hq
  have g1 := Hg1.out
  have g2 := Hg2.out
  go_wp2_with fail
  go_end0
  have hn : b ≠ m := fun h => HN.out.2.2.2.2.2 h.symm
  refine ⟨rfl, HO3.out.tch (Tch.set _ _ _ _) (.inr ⟨b, rfl, by simpa using hn⟩), HT3.out.trans ((Tch.set _ _ _ _).more (by simp))⟩
end Go.Proofs.YtpedkkmoplbdhaaDoor
