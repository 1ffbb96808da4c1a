/- Walks: pieces of a message: add. -/
import Derived.Test.YtadblfnggmaadaaDoorRgD
import Derived.Test.YtadblfnggmaadaaDoorRgF
import Derived.Deep.CutBlock
namespace Go.Proofs.YtadblfnggmaadaaDoor
open Go.RowKit Go.Cv
set_option maxRecDepth 100000
set_option linter.unusedVariables false
/-- How far the pieces from i on end within f. -/
def eaten (R : List Rg) (i : Nat) (f : Rg) : List Rg := (R.drop i).takeWhile fun r => decide (r.fin ≤ f.fin)
def bytesOf (T : List Rg) : Nat := (T.map (·.l.length)).sum
theorem tw_all {α : Type} (p : α → Bool) : ∀ l : List α, (∀ a ∈ l, p a = true) → l.takeWhile p = l
  | [], _ => rfl
  | a :: l, h => by rw [List.takeWhile_cons, h a (by simp), if_pos rfl, tw_all p l fun b hb => h b (by simp [hb])]
theorem eaten_all {R : List Rg} {i : Nat} {f : Rg} (t : Nat) (ht : (R.drop i).length ≤ t) (h : ∀ r ∈ (R.drop i).take t, r.fin ≤ f.fin) : eaten R i f = (R.drop i).take t := by
  rw [List.take_of_length_le ht] at h ⊢
  exact tw_all _ _ fun r hr => decide_eq_true (h r hr)
theorem eaten_stop {R : List Rg} {i j t : Nat} {f r : Rg} (hj : i + t = j) (hr : R[j]? = some r) (h : ∀ r ∈ (R.drop i).take t, r.fin ≤ f.fin) (hn : ¬ r.fin ≤ f.fin) : eaten R i f = (R.drop i).take t := by
  have hd : (R.drop i)[t]? = some r := by rw [List.getElem?_drop, hj]; exact hr
  obtain ⟨hl, hv⟩ := List.getElem?_eq_some_iff.1 hd
  have e : R.drop i = (R.drop i).take t ++ (R.drop i)[t] :: (R.drop i).drop (t + 1) := by
    rw [← List.drop_eq_getElem_cons hl, List.take_append_drop]
  rw [eaten]
  conv => lhs; rw [e]
  rw [List.takeWhile_append_of_pos (fun a ha => decide_eq_true (h a ha)), List.takeWhile_cons, hv]
  simp [hn]
theorem take_step {R : List Rg} {i j t : Nat} {r : Rg} (hj : i + t = j) (hr : R[j]? = some r) : (R.drop i).take (t + 1) = (R.drop i).take t ++ [r] := by
  have hd : (R.drop i)[t]? = some r := by rw [List.getElem?_drop, hj]; exact hr
  obtain ⟨hl, hv⟩ := List.getElem?_eq_some_iff.1 hd
  rw [List.take_succ_eq_append_getElem hl, hv]
theorem bytes_step {R : List Rg} {i j t : Nat} {r : Rg} (hj : i + t = j) (hr : R[j]? = some r) : bytesOf ((R.drop i).take (t + 1)) = bytesOf ((R.drop i).take t) + r.l.length := by
  rw [take_step hj hr]
  simp [bytesOf]
theorem all_step {R : List Rg} {i j t : Nat} {f r : Rg} (hj : i + t = j) (hr : R[j]? = some r) (h : ∀ r ∈ (R.drop i).take t, r.fin ≤ f.fin) (hn : r.fin ≤ f.fin) : ∀ r ∈ (R.drop i).take (t + 1), r.fin ≤ f.fin := by
  rw [take_step hj hr]
  intro q hq
  rcases List.mem_append.1 hq with hq | hq
  · exact h q hq
  · simp at hq; subst hq; exact hn
theorem bytes_all (K : Nat) (T : List Rg) (h : ∀ r ∈ T, r.l.length ≤ K) : bytesOf T ≤ T.length * K := by
  induction T with
  | nil => simp [bytesOf]
  | cons r T ih =>
    have h1 := h r (by simp)
    have h2 := ih fun q hq => h q (by simp [hq])
    have e : bytesOf (r :: T) = r.l.length + bytesOf T := by simp [bytesOf]
    rw [e, List.length_cons, Nat.succ_mul]
    omega
theorem bytes_le {K : Nat} {R : List Rg} {n : Nat} (h : ∀ r ∈ R, r.l.length ≤ K) (hn : R.length = n) (i t : Nat) : bytesOf ((R.drop i).take t) ≤ n * K := by
  have h1 := bytes_all K ((R.drop i).take t) fun r hr => h r (List.mem_of_mem_drop (List.mem_of_mem_take hr))
  have h2 : ((R.drop i).take t).length ≤ n := by rw [List.length_take, List.length_drop]; omega
  exact Nat.le_trans h1 (Nat.mul_le_mul_right K h2)
theorem small_len {R : List Rg} (h : Small R) : ∀ r ∈ R, r.l.length ≤ 1000000 := fun r hr => by
  have := h r hr
  unfold Rg.fin at this
  omega
theorem b_bound {b b' : Int} {y n N : Nat} (h : N ≤ n * 1000000) (hn : n ≤ 1000) (hb : b = -(N : Int)) (hy : y ≤ 1000000) (hb' : b - (y : Int) = b') : -1002000000 ≤ b' ∧ b' ≤ 0 := by
  have h2 : n * 1000000 ≤ 1000 * 1000000 := Nat.mul_le_mul_right _ hn
  omega
theorem at_place {R T : List Rg} {f : Rg} {i : Nat} (h : i ≤ R.length) : (R.take i ++ ([f] ++ T))[i]? = some f := by
  rw [List.getElem?_append_right (by rw [List.length_take]; omega), List.length_take, Nat.min_eq_left h, Nat.sub_self]
  rfl
theorem z_bound {b z : Int} {m n N : Nat} (h : N ≤ n * 1000000) (hn : n ≤ 1000) (hb : b = -(N : Int)) (hy : m ≤ 1000000) (hb' : b + (m : Int) = z) : -1002000000 ≤ z ∧ z ≤ 1000000 := by
  have h2 : n * 1000000 ≤ 1000 * 1000000 := Nat.mul_le_mul_right _ hn
  omega
/-- Where f belongs: behind the pieces that begin before it. -/
def Place (R : List Rg) (f : Rg) (i : Nat) : Prop := i ≤ R.length ∧ (∀ t r, R[t]? = some r → (t < i ↔ r.off < f.off))
def Sorted (R : List Rg) : Prop := ∀ (i j : Nat) (r s : Rg), i ≤ j → R[i]? = some r → R[j]? = some s → r.off ≤ s.off
/-- What the call keeps in memory. -/
structure AddSt (g n c cov p p1 p2 : Nat) (E : Option Addr) (R : List Rg) (rs : List Value) (f : Rg) (w0 w : World) : Prop where
  fr : Blk w g 92 (frRow E n c cov rs)
  row : Own w 0 2 E n c (rgs R)
  pf : Blk w p 57 #[.pointer (some ⟨g, 0, none⟩)]
  po : Blk w p1 27 #[.int .u32 (f.off : Nat)]
  pr : Blk w p2 94 #[.int .u32 (f.off : Nat), .slice f.A f.l.length f.c]
  bel : Below w0.heap.size w0 w
theorem AddSt.keep {g n c cov p p1 p2 : Nat} {E : Option Addr} {R : List Rg} {rs : List Value} {f : Rg} {w0 w w' : World} (h : AddSt g n c cov p p1 p2 E R rs f w0 w) (hb : Below w.heap.size w w') : AddSt g n c cov p p1 p2 E R rs f w0 w' :=
  ⟨h.fr.keep hb, h.row.keep hb, h.pf.keep hb, h.po.keep hb, h.pr.keep hb, below_two h.bel hb⟩
theorem AddSt.cells {g n c cov p p1 p2 : Nat} {E : Option Addr} {R : List Rg} {rs : List Value} {f : Rg} {w0 w : World} (h : AddSt g n c cov p p1 p2 E R rs f w0 w) :
    w.cell? ⟨g, 0, none⟩ = some (.slice E n c) ∧ w.cell? ⟨p, 0, none⟩ = some (.pointer (some ⟨g, 0, none⟩)) ∧ w.cell? ⟨p1, 0, none⟩ = some (.int .u32 (f.off : Nat)) ∧ w.cell? ⟨p2, 0, none⟩ = some (.int .u32 (f.off : Nat)) ∧ w.cell? ⟨p2, 1, none⟩ = some (.slice f.A f.l.length f.c) :=
  ⟨(fr1 h.fr).1, (h.pf.cell 0).trans rfl, (h.po.cell 0).trans rfl, (h.pr.cell 0).trans rfl, (h.pr.cell 1).trans rfl⟩
theorem add_start {g n c cov p p1 p2 : Nat} {E : Option Addr} {R : List Rg} {rs : List Value} {f : Rg} {w : World} (hp : w.heap.size = p) (hp1 : p + 1 = p1) (hp2 : p1 + 1 = p2) (hg : Blk w g 92 (frRow E n c cov rs)) (hO : Own w 0 2 E n c (rgs R)) :
    AddSt g n c cov p p1 p2 E R rs f w (((w.alloc (.cells #[.pointer (some ⟨g, 0, none⟩)] 57)).alloc (.cells #[.int .u32 (f.off : Nat)] 27)).alloc (.cells #[.int .u32 (f.off : Nat), .slice f.A f.l.length f.c] 94)) := by
  subst hp hp1 hp2
  have b1 := below_alloc w (.cells #[.pointer (some ⟨g, 0, none⟩)] 57)
  have b2 := below_alloc (w.alloc (.cells #[.pointer (some ⟨g, 0, none⟩)] 57)) (.cells #[.int .u32 (f.off : Nat)] 27)
  have b3 := below_alloc ((w.alloc (.cells #[.pointer (some ⟨g, 0, none⟩)] 57)).alloc (.cells #[.int .u32 (f.off : Nat)] 27)) (.cells #[.int .u32 (f.off : Nat), .slice f.A f.l.length f.c] 94)
  have bb := below_two (below_two b1 b2) b3
  have k1 := Blk.new w 57 #[.pointer (some ⟨g, 0, none⟩)]
  have k2 := Blk.new (w.alloc (.cells #[.pointer (some ⟨g, 0, none⟩)] 57)) 27 #[.int .u32 (f.off : Nat)]
  have k3 := Blk.new ((w.alloc (.cells #[.pointer (some ⟨g, 0, none⟩)] 57)).alloc (.cells #[.int .u32 (f.off : Nat)] 27)) 94 #[.int .u32 (f.off : Nat), .slice f.A f.l.length f.c]
  rw [World.size_alloc] at k2 k3
  rw [World.size_alloc] at k3
  exact ⟨hg.keep bb, hO.keep bb, (k1.keep b2).keep b3, k2.keep b3, k3, bb⟩
def offAt (R : List Rg) (t : Nat) : Nat := (R[t]?.getD ⟨0, none, 0, []⟩).off
theorem offAt_get {R : List Rg} {t : Nat} (h : t < R.length) : offAt R t = R[t].off := by simp [offAt, h]
theorem add_search {g n c cov p p1 p2 : Nat} {E : Option Addr} {R : List Rg} {rs : List Value} {f : Rg} {w0 w : World} (h : AddSt g n c cov p p1 p2 E R rs f w0 w) (hn : R.length = n) (hE : Hi 0 E) (W : World) (hW : Below w.heap.size w W) (k : Nat) (hk : k < n) :
    Calls Tryd.prog 36 #[.int .i64 (k : Nat), .pointer (some ⟨p, 0, none⟩), .pointer (some ⟨p1, 0, none⟩)] W fun e w' => e = .returned (.bool (decide (f.off ≤ offAt R k))) ∧ Below W.heap.size W w' := by
  have h' := h.keep hW
  obtain ⟨r, hr⟩ : ∃ r, R[k]? = some r := ⟨_, List.getElem?_eq_getElem (by omega)⟩
  obtain ⟨a, rfl⟩ := rgAddr hE h'.row.rd hr
  obtain ⟨_, p0, q0, _⟩ := h'.cells
  rw [offAt_get (by omega)]
  exact geq_any a g p p1 f.off k n c cov R rs hn hk W h'.fr h'.row.rd p0 q0
theorem sorted_mono {R : List Rg} {f : Rg} {n : Nat} (hn : R.length = n) (h : Sorted R) : ∀ i j, i ≤ j → j < n → decide (f.off ≤ offAt R i) = true → decide (f.off ≤ offAt R j) = true := fun i j hij hj hi => by
  rw [offAt_get (by omega)] at hi
  rw [offAt_get (by omega)]
  have h1 := h i j R[i] R[j] hij (List.getElem?_eq_getElem (by omega)) (List.getElem?_eq_getElem (by omega))
  have h2 := of_decide_eq_true hi
  exact decide_eq_true (by omega)
theorem place_of {R : List Rg} {f : Rg} {n i : Nat} (hn : R.length = n) (hi : i ≤ n) (h1 : ∀ t, t < i → decide (f.off ≤ (offAt R t)) = false) (h2 : ∀ t, i ≤ t → t < n → decide (f.off ≤ (offAt R t)) = true) : Place R f i := by
  refine ⟨by omega, fun t r hr => ?_⟩
  have hl := (List.getElem?_eq_some_iff.1 hr).1
  rcases Nat.lt_or_ge t i with h | h
  · have := h1 t h
    have ho : offAt R t = r.off := by simp [offAt, hr]
    rw [ho] at this
    simp at this
    exact ⟨fun _ => this, fun _ => h⟩
  · have := h2 t h (by omega)
    have ho : offAt R t = r.off := by simp [offAt, hr]
    rw [ho] at this
    simp at this
    exact ⟨fun h' => by omega, fun h' => by omega⟩
def addR (R : List Rg) (f : Rg) (i : Nat) : List Rg := R.take i ++ ([f] ++ R.drop (i + (eaten R i f).length))
def AddPost (g cov : Nat) (E : Option Addr) (R : List Rg) (rs : List Value) (f : Rg) (av : Int) (ev : Value) (w : World) (e : Ending) (w' : World) : Prop := ∃ i, Place R f i ∧
  (((covA R i f || covC R i f) = true ∧ e = .returned (.tuple #[.int .i64 0, .int .i64 0, .nilIface]) ∧ Below w.heap.size w w') ∨
   ((covA R i f || covC R i f) = false ∧ av < 1 - ((eaten R i f).length : Int) ∧ e = .returned (.tuple #[.int .i64 0, .int .i64 0, ev]) ∧ Below w.heap.size w w') ∨
   ((covA R i f || covC R i f) = false ∧ ¬ av < 1 - ((eaten R i f).length : Int) ∧ e = .returned (.tuple #[.int .i64 (1 - ((eaten R i f).length : Int)), .int .i64 ((f.l.length : Int) - (bytesOf (eaten R i f) : Int)), .nilIface]) ∧
     ∃ E' n' c', (addR R f i).length = n' ∧ Blk w' g 92 (frRow E' n' c' (advL ((addR R f i).drop i) cov) rs) ∧ Own w' 0 2 E' n' c' (rgs (addR R f i)) ∧ Moved E E' w w' ∧ Hi 0 E' ∧ E'.map (·.block) ≠ some g ∧ Tch (g :: (E.map (·.block)).toList) w w'))
set_option maxHeartbeats 2000000 in
theorem add_any (g n c cov : Nat) (E : Option Addr) (A0 : Option Addr) (m c0 : Nat) (f : Rg) (R : List Rg) (rs : List Value) (av : Int) (hn : R.length = n) (hn0 : n ≤ 1000) (hs : Small R) (hso : Sorted R) (hf : f.fin ≤ 1000000) (hm : f.l.length = m)
    (hf1 : m = 0 → f.A = none ∧ f.c = 0) (hf2 : m ≠ 0 → f.A = A0 ∧ f.c = c0) (hcov : cov ≤ 1000000) (ev : Value) (w : World) (hev : w.cell? ⟨0, 0, none⟩ = some ev)
    (hg : Blk w g 92 (frRow E n c cov rs)) (hE : Hi 0 E) (hge : E.map (·.block) ≠ some g) (hlo : Lo E w) (hO : Own w 0 2 E n c (rgs R)) :
    Calls Tryd.prog 28 #[.pointer (some ⟨g, 0, none⟩), .int .u32 (f.off : Nat), .slice A0 m c0, .int .i64 av] w (AddPost g cov E R rs f av ev w) := by
  obtain ⟨p, hp⟩ : ∃ p, w.heap.size = p := ⟨_, rfl⟩
  obtain ⟨p1, hp1⟩ : ∃ p1, p + 1 = p1 := ⟨_, rfl⟩
  obtain ⟨p2, hp2⟩ : ∃ p2, p1 + 1 = p2 := ⟨_, rfl⟩
  have HS := Lib.hid (add_start (f := f) hp hp1 hp2 hg hO)
  have HN := Lib.hid (And.intro hn (And.intro hn0 (And.intro hs (And.intro hso (And.intro hf (And.intro hm (And.intro hcov (And.intro hE (And.intro hge hlo)))))))))
  rw [hm] at HS
  have HFF := Lib.hid (And.intro hf1 hf2)
  have HEV := Lib.hid hev
  clear hg hO hn hn0 hs hso hf hcov hE hge hf1 hf2 hm hlo hev
  have HP := Lib.hid (And.intro hp (And.intro hp1 hp2))
  go_enter Tryd.func28, Tryd.ntmps28
  go_upto_if 16 with (fail)
  go_cut [2] (fun s2 wx => s2 = .slice f.A m f.c ∧ wx = (w.alloc (.cells #[.pointer (some ⟨g, 0, none⟩)] 57)).alloc (.cells #[.int .u32 (f.off : Nat)] 27))
  case first =>
    by_cases hz : m = 0
    · obtain ⟨h1, h2⟩ := HFF.out.1 hz
      subst hz
      go_wp2_with fail
      go_meet
      case rel => exact ⟨by rw [h1, h2], rfl⟩
    · obtain ⟨h1, h2⟩ := HFF.out.2 hz
      have hz' : ¬ (m : Int) = 0 := by omega
      go_wp2_with fail
      go_meet
      case rel => exact ⟨by rw [h1, h2], rfl⟩
  case rest =>
  obtain ⟨rfl, rfl⟩ := hcut
  go_upto_region 4 with (fail)
  clear hp hp1 hp2
  have H3 : Hid (AddSt g n c cov p p1 p2 E R rs f w _) := Lib.hid HS.out
  generalize (World.alloc (World.alloc (World.alloc w _) _) _) = w3 at *
  clear HS
  obtain ⟨g0, p0, q0, r0, r1⟩ := H3.out.cells
  go_wp2_with fail
  refine (search_any p p1 n (fun t => decide (f.off ≤ offAt R t)) (by have := HN.out.2.1; omega) (sorted_mono HN.out.1 HN.out.2.2.2.1) w3 (Lib.hid (add_search H3.out HN.out.1 HN.out.2.2.2.2.2.2.2.1))).mono ?_
  rintro e w4 ⟨i, rfl, hi, hi1, hi2, hb4⟩
  have HI : Hid (i ≤ n ∧ Place R f i) := Lib.hid ⟨hi, place_of HN.out.1 hi hi1 hi2⟩
  have H4 := Lib.hid (H3.out.keep hb4)
  clear hi hi1 hi2 hb4 H3 g0 p0 q0 r0 r1
  obtain ⟨g0, p0, q0, r0, r1⟩ := H4.out.cells
  go_wp2_with fail
  refine (covers_any g i c cov E f R rs n HN.out.1 (by have := HN.out.2.1; omega) HN.out.2.2.1 HN.out.2.2.2.2.1 HI.out.1 w4 H4.out.fr HN.out.2.2.2.2.2.2.2.1 H4.out.row.rd).mono ?_
  rintro e w5 ⟨rfl, hb5⟩
  have H5 := Lib.hid (H4.out.keep hb5)
  clear hb5 H4 g0 p0 q0 r0 r1
  obtain ⟨cv, hcv⟩ : ∃ b, (covA R i f || covC R i f) = b := ⟨_, rfl⟩
  rw [hcv]
  have HCV := Lib.hid hcv
  clear hcv
  cases cv
  · go_upto_block 0 with (fail)
    go_cut [8, 9, 13] (fun u8 u9 u13 wx => ∃ (t : Nat) (x b : Int) (j : Nat), u8 = .int .i64 x ∧ u9 = .int .i64 b ∧ u13 = .int .i64 (j : Nat) ∧ Hid (x = -(t : Int) ∧ b = -(bytesOf ((R.drop i).take t) : Int) ∧ i + t = j ∧ j ≤ n ∧ eaten R i f = (R.drop i).take t ∧ AddSt g n c cov p p1 p2 E R rs f w wx))
    case first =>
      go_wp2_with fail
      go_loopw [8, 9, 13] (fun u8 u9 u13 wr => ∃ (t : Nat) (x b : Int) (j : Nat), u8 = .int .i64 x ∧ u9 = .int .i64 b ∧ u13 = .int .i64 (j : Nat) ∧ Hid (x = -(t : Int) ∧ b = -(bytesOf ((R.drop i).take t) : Int) ∧ i + t = j ∧ j ≤ n ∧ (∀ r ∈ (R.drop i).take t, r.fin ≤ f.fin) ∧ AddSt g n c cov p p1 p2 E R rs f w wr)) (fun _ _ u13 _ => n - (intOf u13).toNat)
      case atStart => exact ⟨0, 0, 0, i, rfl, rfl, rfl, Lib.hid ⟨rfl, rfl, rfl, HI.out.1, fun r h => by simp at h, H5.out⟩⟩
      case round =>
        obtain ⟨t, x, b, j, rfl, rfl, rfl, HJ⟩ := hrel
        obtain ⟨g0, p0, q0, r0, r1⟩ := HJ.out.2.2.2.2.2.cells
        by_cases hlt : j < n
        · obtain ⟨r2, hr2⟩ : ∃ r2, R[j]? = some r2 := ⟨_, List.getElem?_eq_getElem (by rw [HN.out.1]; exact hlt)⟩
          obtain ⟨hjl, hjr⟩ := List.getElem?_eq_some_iff.1 hr2
          obtain ⟨a, hEa⟩ := rgAddr HN.out.2.2.2.2.2.2.2.1 HJ.out.2.2.2.2.2.row.rd hr2
          have hrd := HJ.out.2.2.2.2.2.row.rd
          rw [hEa] at hrd
          obtain ⟨d0, d1⟩ := rgCell hrd j hjl
          rw [hjr, Nat.zero_add] at d0 d1
          rw [hEa] at g0
          have HE1 := Lib.hid (fun W => end_any r2.off r2.l.length r2.c r2.fin r2.A rfl (HN.out.2.2.1.at_ hr2) W)
          have HE2 := Lib.hid (fun W => end_any f.off f.l.length f.c f.fin f.A rfl HN.out.2.2.2.2.1 W)
          have HA := Lib.hid hEa
          have HR2 := Lib.hid (And.intro hr2 hlt)
          obtain ⟨x2, hx2⟩ : ∃ x, r2.off = x := ⟨_, rfl⟩
          obtain ⟨y2, hy2⟩ : ∃ y, r2.l.length = y := ⟨_, rfl⟩
          obtain ⟨v2, hv2⟩ : ∃ v, r2.fin = v := ⟨_, rfl⟩
          obtain ⟨fo, hfo⟩ : ∃ v, f.off = v := ⟨_, rfl⟩
          obtain ⟨fl, hfl⟩ : ∃ v, f.l.length = v := ⟨_, rfl⟩
          obtain ⟨fz, hfz⟩ : ∃ v, f.fin = v := ⟨_, rfl⟩
          have HV := Lib.hid (And.intro hx2 (And.intro hy2 (And.intro hv2 (And.intro hfo (And.intro hfl hfz)))))
          rw [hx2] at d0 HE1
          rw [hy2] at d1 HE1
          rw [hv2] at HE1
          rw [hfo, hfz, hfl] at HE2
          rw [hfo] at r0
          rw [hfl] at r1
          have HC : Hid (∀ W, Below wr.heap.size wr W → W.cell? ⟨p, 0, none⟩ = some (.pointer (some ⟨g, 0, none⟩)) ∧ W.cell? ⟨g, 0, none⟩ = some (.slice (some ⟨a, 0, none⟩) n c) ∧ W.cell? ⟨a, j * 2, none⟩ = some (.int .u32 (x2 : Nat)) ∧ W.cell? ⟨a, j * 2 + 1, none⟩ = some (.slice r2.A y2 r2.c) ∧ W.cell? ⟨p2, 0, none⟩ = some (.int .u32 (fo : Nat)) ∧ W.cell? ⟨p2, 1, none⟩ = some (.slice f.A fl f.c)) := by
            have HX := Lib.hid (And.intro p0 (And.intro g0 (And.intro d0 (And.intro d1 (And.intro r0 r1)))))
            exact Lib.hid fun W hW => ⟨keep_of_below hW _ _ HX.out.1, keep_of_below hW _ _ HX.out.2.1, keep_of_below hW _ _ HX.out.2.2.1, keep_of_below hW _ _ HX.out.2.2.2.1, keep_of_below hW _ _ HX.out.2.2.2.2.1, keep_of_below hW _ _ HX.out.2.2.2.2.2⟩
          have t0 : decide (j < n) = true := decide_eq_true hlt
          clear g0 p0 q0 r0 r1 d0 d1 hr2 hjl hjr hEa hrd hx2 hy2 hv2 hfo hfl hfz
          by_cases hle : v2 ≤ fz
          · have t1 : decide (v2 ≤ fz) = true := decide_eq_true hle
            go_wp2_with fail
            go_region_held_law (fun w' => w'.cell? ⟨p, 0, none⟩ = some (.pointer (some ⟨g, 0, none⟩)) ∧ w'.cell? ⟨g, 0, none⟩ = some (.slice (some ⟨a, 0, none⟩) n c) ∧ w'.cell? ⟨a, j * 2, none⟩ = some (.int .u32 (x2 : Nat)) ∧ w'.cell? ⟨a, j * 2 + 1, none⟩ = some (.slice r2.A y2 r2.c) ∧ w'.cell? ⟨p2, 0, none⟩ = some (.int .u32 (fo : Nat)) ∧ w'.cell? ⟨p2, 1, none⟩ = some (.slice f.A fl f.c)) (first | exact HC.out _ (Below.refl _ _) | exact HC.out _ (below_drew _) | exact HC.out _ (below_two (below_drew _) hb6) | exact HC.out _ (below_two (below_two (below_drew _) hb6) hb7)) (first
              | (go_at_call 38; (with_reducible refine (HE1.out _).mono ?_); rintro e w6 ⟨rfl, hb6⟩)
              | (go_at_call 38; (with_reducible refine (HE2.out _).mono ?_); rintro e w7 ⟨rfl, hb7⟩))
            have hb := below_two (below_two (below_drew _) hb6) hb7
            have HS := Lib.hid (HJ.out.2.2.2.2.2.keep hb)
            obtain ⟨z0, z1, z2, z3, z4, z5⟩ := HC.out _ hb
            have hbyt : bytesOf ((R.drop i).take (t + 1)) = bytesOf ((R.drop i).take t) + y2 := by
              rw [← HV.out.2.1]
              exact bytes_step HJ.out.2.2.1 HR2.out.1
            have hall : ∀ r ∈ (R.drop i).take (t + 1), r.fin ≤ f.fin := all_step HJ.out.2.2.1 HR2.out.1 HJ.out.2.2.2.2.1 (by rw [HV.out.2.2.1, HV.out.2.2.2.2.2]; exact hle)
            have hby := bytes_le (small_len HN.out.2.2.1) HN.out.1 i t
            have hy2 : y2 ≤ 1000000 := by
              have h1 := HN.out.2.2.1.at_ HR2.out.1
              have h2 := HV.out.2.1
              unfold Rg.fin at h1
              omega
            obtain ⟨x', hx'⟩ : ∃ x', x - 1 = x' := ⟨_, rfl⟩
            obtain ⟨b', hb'⟩ : ∃ b', b - (y2 : Int) = b' := ⟨_, rfl⟩
            obtain ⟨j', hj'⟩ : ∃ j', j + 1 = j' := ⟨_, rfl⟩
            have HNX : Hid (x' = -((t + 1 : Nat) : Int) ∧ b' = -(bytesOf ((R.drop i).take (t + 1)) : Int) ∧ i + (t + 1) = j' ∧ j' ≤ n) := Lib.hid (by
              have h1 := HJ.out.1; have h2 := HJ.out.2.1; have h3 := HJ.out.2.2.1
              rw [hbyt]
              have h4 := HR2.out.2
              exact ⟨by omega, by omega, by omega, by omega⟩)
            have HAL := Lib.hid hall
            have hx1 : -1001 ≤ x' ∧ x' ≤ 0 := by have h1 := HNX.out.1; have h2 := HNX.out.2.2; have h3 := HN.out.2.1; omega
            have hb1 := b_bound hby HN.out.2.1 HJ.out.2.1 hy2 hb'
            have W1 : Hid (wrap64 x' = x') := Lib.hid (by unfold wrap64; omega)
            have W2 : Hid (IntKind.i64.wrap x' = x') := Lib.hid (by rw [IntKind.wrap_i64]; omega)
            have W3 : Hid (wrap64 b' = b') := Lib.hid (by unfold wrap64; omega)
            have W4 : Hid (IntKind.i64.wrap b' = b') := Lib.hid (by rw [IntKind.wrap_i64]; omega)
            have W5 : Hid (wrap64 (j' : Int) = (j' : Int)) := Lib.hid (w64_all j' (by have h1 := HNX.out.2.2; have h3 := HN.out.2.1; omega))
            have W6 : Hid (IntKind.i64.wrap (j' : Int) = (j' : Int)) := Lib.hid (i64_nat j' (by have h1 := HNX.out.2.2; have h3 := HN.out.2.1; omega))
            have e1 : (j : Int) + 1 = (j' : Int) := by omega
            clear hb hb6 hb7 hbyt hall hby hy2 hj' hx1 hb1 HC HE1 HE2 hle t1
            clear hlt
            have t2 : j < n := HR2.out.2
            have w1' := W1.out
            have w2' := W2.out
            go_upto_region 10 with (fail)
            clear w1' w2'
            have w3' := W3.out
            have w4' := W4.out
            go_upto_region 11 with (fail)
            clear w3' w4'
            have w5' := W5.out
            have w6' := W6.out
            go_wp2_with fail
            go_roundw
            case rel => exact ⟨t + 1, x', b', j', rfl, rfl, rfl, Lib.hid ⟨HNX.out.1, HNX.out.2.1, HNX.out.2.2.1, HNX.out.2.2.2, HAL.out, HS.out⟩⟩
            case measure =>
              have h1 := HNX.out.2.2.1; have h2 := HJ.out.2.2.1; have h3 := HNX.out.2.2.2
              show n - ((j' : Int)).toNat < n - ((j : Int)).toNat
              omega
          · have t1 : decide (v2 ≤ fz) = false := decide_eq_false hle
            go_wp2_with fail
            go_region_held_law (fun w' => w'.cell? ⟨p, 0, none⟩ = some (.pointer (some ⟨g, 0, none⟩)) ∧ w'.cell? ⟨g, 0, none⟩ = some (.slice (some ⟨a, 0, none⟩) n c) ∧ w'.cell? ⟨a, j * 2, none⟩ = some (.int .u32 (x2 : Nat)) ∧ w'.cell? ⟨a, j * 2 + 1, none⟩ = some (.slice r2.A y2 r2.c) ∧ w'.cell? ⟨p2, 0, none⟩ = some (.int .u32 (fo : Nat)) ∧ w'.cell? ⟨p2, 1, none⟩ = some (.slice f.A fl f.c)) (first | exact HC.out _ (Below.refl _ _) | exact HC.out _ (below_drew _) | exact HC.out _ (below_two (below_drew _) hb6) | exact HC.out _ (below_two (below_two (below_drew _) hb6) hb7)) (first
              | (go_at_call 38; (with_reducible refine (HE1.out _).mono ?_); rintro e w6 ⟨rfl, hb6⟩)
              | (go_at_call 38; (with_reducible refine (HE2.out _).mono ?_); rintro e w7 ⟨rfl, hb7⟩))
            have hb := below_two (below_two (below_drew _) hb6) hb7
            have HS := Lib.hid (HJ.out.2.2.2.2.2.keep hb)
            have HF : Hid (eaten R i f = (R.drop i).take t) := Lib.hid (eaten_stop HJ.out.2.2.1 HR2.out.1 HJ.out.2.2.2.2.1 (by rw [HV.out.2.2.1, HV.out.2.2.2.2.2]; exact hle))
            clear hb hb6 hb7
            go_wp2_with fail
            go_meet
            case rel => exact ⟨t, x, b, j, rfl, rfl, rfl, Lib.hid ⟨HJ.out.1, HJ.out.2.1, HJ.out.2.2.1, HJ.out.2.2.2.1, HF.out, HS.out⟩⟩
        · have HF : Hid (eaten R i f = (R.drop i).take t) := Lib.hid (by
            have h1 := HJ.out.2.2.1; have h2 := HN.out.1
            exact eaten_all _ (by rw [List.length_drop]; omega) HJ.out.2.2.2.2.1)
          have HJN : Hid (i + t = j ∧ j ≤ n ∧ ¬ j < n) := Lib.hid ⟨HJ.out.2.2.1, HJ.out.2.2.2.1, hlt⟩
          have d1 : decide (j < n) = false := decide_eq_false hlt
          clear hlt
          go_wp2_with fail
          go_quiet (fail)
          have hb := below_drewN (Below.refl wr.heap.size wr) nq
          have HS := Lib.hid (HJ.out.2.2.2.2.2.keep hb)
          clear hb g0 p0 q0 r0 r1 d1
          generalize wr.drewN nq = wz at *
          go_wp2_with fail
          go_meet
          case rel => exact ⟨t, x, b, j, rfl, rfl, rfl, Lib.hid ⟨HJ.out.1, HJ.out.2.1, HJ.out.2.2.1, HJ.out.2.2.2.1, HF.out, HS.out⟩⟩
    case rest =>
      obtain ⟨t, x, b, j, rfl, rfl, rfl, HJ⟩ := hcut
      clear H5
      obtain ⟨y, hy⟩ : ∃ y, x + 1 = y := ⟨_, rfl⟩
      have HY : Hid (y = 1 - (t : Int) ∧ t ≤ n) := Lib.hid (by have h1 := HJ.out.1; have h2 := HJ.out.2.2; omega)
      have W1 : Hid (wrap64 y = y) := Lib.hid (by have h1 := HY.out; have h3 := HN.out.2.1; unfold wrap64; omega)
      have W2 : Hid (IntKind.i64.wrap y = y) := Lib.hid (by have h1 := HY.out; have h3 := HN.out.2.1; rw [IntKind.wrap_i64]; omega)
      have w1' := W1.out
      have w2' := W2.out
      by_cases hav : av < y
      · have t0 : decide (av < y) = true := decide_eq_true hav
        have ev6 := keep_of_below HJ.out.2.2.2.2.2.bel _ _ HEV.out
        have HAV := Lib.hid hav
        generalize wc = w6 at *
        go_wp2_with fail
        go_quiet (fail)
        have hbq := below_drewN (Below.refl w6.heap.size w6) nq
        have HBQ := Lib.hid (below_two HJ.out.2.2.2.2.2.bel hbq)
        clear hbq w1' w2' t0 ev6
        generalize w6.drewN nq = w7 at *
        go_wp2_with fail
        go_ret3
        have e1 : (1 : Int) - ((eaten R i f).length : Int) = y := by
          have h2 := HJ.out.2.2.2.2.1; have h3 := HY.out.1; have h4 := HJ.out.2.2.1; have h5 := HJ.out.2.2.2.1; have h6 := HN.out.1
          rw [h2, List.length_take, List.length_drop]
          omega
        exact ⟨i, HI.out.2, .inr (.inl ⟨HCV.out, by rw [e1]; exact HAV.out, rfl, HBQ.out⟩)⟩
      · have t0 : decide (av < y) = false := decide_eq_false hav
        have HAV := Lib.hid hav
        go_upto_region 15 with (fail)
        clear w1' w2' t0
        obtain ⟨R', hR'⟩ : ∃ R', R.take i ++ ([f] ++ R.drop j) = R' := ⟨_, rfl⟩
        go_cut [] (fun wx => ∃ (E' : Option Addr) (n' c' : Nat), Hid (R'.length = n' ∧ Blk wx g 92 (frRow E' n' c' cov rs) ∧ Own wx 0 2 E' n' c' (rgs R') ∧ Moved E E' w wx ∧ Hi 0 E' ∧ E'.map (·.block) ≠ some g ∧ wx.cell? ⟨p, 0, none⟩ = some (.pointer (some ⟨g, 0, none⟩)) ∧ Tch (g :: (E.map (·.block)).toList) w wx))
        case first =>
          obtain ⟨g0, p0, q0, r0, r1⟩ := HJ.out.2.2.2.2.2.cells
          generalize wc = w6 at *
          have hsz : w.heap.size ≤ w6.heap.size := HJ.out.2.2.2.2.2.bel.size
          have bW : Below w6.heap.size w6 (w6.alloc (.cells #[.int .u32 (f.off : Nat), .slice f.A f.l.length f.c] 94)).drew := (below_alloc w6 _).drew
          have hva : E.map (·.block) ≠ some w6.heap.size := HN.out.2.2.2.2.2.2.2.2.2.ne hsz
          have HR := Lib.hid (rep_any E n c i j w6.heap.size R f HN.out.1 (by have := HN.out.2.1; omega) (by have := HJ.out.2.2.1; omega) HJ.out.2.2.2.1 _ HN.out.2.2.2.2.2.2.2.1 hva (HJ.out.2.2.2.2.2.row.keep bW) ((Blk.new w6 94 #[.int .u32 (f.off : Nat), .slice f.A f.l.length f.c]).keep (below_drew _)))
          have HK : Hid (∀ W7, Tch (E.map (·.block)).toList (w6.alloc (.cells #[.int .u32 (f.off : Nat), .slice f.A f.l.length f.c] 94)).drew W7 → Blk W7 g 92 (frRow E n c cov rs) ∧ W7.cell? ⟨p, 0, none⟩ = some (.pointer (some ⟨g, 0, none⟩)) ∧ W7.cell? ⟨g, 0, none⟩ = some (.slice E n c) ∧ W7.frozen? ⟨g, 0, none⟩ = false) := Lib.hid fun W7 hT => by
            have hk := (HJ.out.2.2.2.2.2.keep bW)
            have hgn : g ∉ (E.map (·.block)).toList := fun hm => HN.out.2.2.2.2.2.2.2.2.1 (by simpa using hm)
            have hpn : p ∉ (E.map (·.block)).toList := fun hm => (HN.out.2.2.2.2.2.2.2.2.2.ne (Nat.le_of_eq HP.out.1)) (by simpa using hm)
            have hb := hk.fr.tch hT hgn
            exact ⟨hb, ((hk.pf.tch hT hpn).cell 0).trans rfl, (fr1 hb).1, hb.frozen 0⟩
          obtain ⟨g0', p0', q0', r0', r1'⟩ := (HJ.out.2.2.2.2.2.keep (below_drew w6)).cells
          obtain ⟨g8, p8, q8, r8, s8⟩ := (HJ.out.2.2.2.2.2.keep bW).cells
          clear bW hva hsz
          go_region_law (first
            | (go_simp; go_at_call 39; (with_reducible refine HR.out.mono ?_); rintro e w7 ⟨E', n', c', rfl, hl7, hO7, hM7, hT7⟩; obtain ⟨k7, p7, g7, f7⟩ := HK.out w7 hT7))
          all_goals
            have hgn : g ∉ (E.map (·.block)).toList := fun hm => HN.out.2.2.2.2.2.2.2.2.1 (by simpa using hm)
            have hE' : Hi 0 E' ∧ E'.map (·.block) ≠ some g := by
              rcases hM7 with h | ⟨k, h, hk⟩
              · rw [h]; exact ⟨HN.out.2.2.2.2.2.2.2.1, HN.out.2.2.2.2.2.2.2.2.1⟩
              · rw [h]
                refine ⟨.inr ⟨k, rfl, Nat.zero_le _⟩, ?_⟩
                have := HJ.out.2.2.2.2.2.fr.lt
                rw [World.size_drew, World.size_alloc] at hk
                simp
                omega
            have hM : Moved E E' w (w7.setCell ⟨g, 0, none⟩ (.slice E' n' c')) := by
              rcases hM7 with h | ⟨k, h, hk⟩
              · exact .inl h
              · refine .inr ⟨k, h, ?_⟩
                rw [World.size_drew, World.size_alloc] at hk
                have := HJ.out.2.2.2.2.2.bel.size
                omega
            have hB : Blk (w7.setCell ⟨g, 0, none⟩ (.slice E' n' c')) g 92 (frRow E' n' c' cov rs) := by
              have h := k7.set_ 0 (.slice E' n' c')
              simpa [frRow] using h
            have hT : Tch (g :: (E.map (·.block)).toList) w (w7.setCell ⟨g, 0, none⟩ (.slice E' n' c')) := by
              have t1 : Tch (g :: (E.map (·.block)).toList) w w6 := Tch.below HJ.out.2.2.2.2.2.bel _
              have t2 : Tch (g :: (E.map (·.block)).toList) w6 (w6.alloc (.cells #[.int .u32 (f.off : Nat), .slice f.A f.l.length f.c] 94)).drew := Tch.below (below_alloc w6 _).drew _
              exact ((t1.trans t2).trans (hT7.more (fun k hk => .inl (by simp [hk])))).trans ((Tch.set w7 g 0 _).more (fun k hk => .inl (by simp at hk; simp [hk])))
            have hO : Own (w7.setCell ⟨g, 0, none⟩ (.slice E' n' c')) 0 2 E' n' c' (rgs R') := by
              rw [hR'] at hO7
              refine hO7.tch (Tch.set w7 g 0 _) ?_
              rcases hE'.1 with h | ⟨a, h, _⟩
              · exact .inl h
              · refine .inr ⟨a, h, ?_⟩
                have h2 := hE'.2
                rw [h] at h2
                simpa using h2
            have hP : (w7.setCell ⟨g, 0, none⟩ (.slice E' n' c')).cell? ⟨p, 0, none⟩ = some (.pointer (some ⟨g, 0, none⟩)) := by
              refine (Tch.set w7 g 0 _).cell p7 ?_
              have h1 := HJ.out.2.2.2.2.2.pf
              have h2 := HJ.out.2.2.2.2.2.fr
              have h3 : p ≠ g := fun h => by
                subst h
                have h4 := h1.cell 1
                rw [(fr1 h2).2.1] at h4
                cases h4
              simpa using h3
            have HF : Hid (R'.length = n' ∧ Blk (w7.setCell ⟨g, 0, none⟩ (.slice E' n' c')) g 92 (frRow E' n' c' cov rs) ∧ Own (w7.setCell ⟨g, 0, none⟩ (.slice E' n' c')) 0 2 E' n' c' (rgs R') ∧ Moved E E' w (w7.setCell ⟨g, 0, none⟩ (.slice E' n' c')) ∧ Hi 0 E' ∧ E'.map (·.block) ≠ some g ∧ (w7.setCell ⟨g, 0, none⟩ (.slice E' n' c')).cell? ⟨p, 0, none⟩ = some (.pointer (some ⟨g, 0, none⟩)) ∧ Tch (g :: (E.map (·.block)).toList) w (w7.setCell ⟨g, 0, none⟩ (.slice E' n' c'))) :=
              Lib.hid ⟨by rw [← hR']; exact hl7, hB, hO, hM, hE'.1, hE'.2, hP, hT⟩
            clear hl7 hO7 hM7 hT7 k7 p7 g7 f7 hgn hE' hM hB hT hO hP g0 p0 q0 r0 r1 g0' p0' q0' r0' r1' g8 p8 q8 r8 s8 HR HK
            generalize w7.setCell ⟨g, 0, none⟩ (.slice E' n' c') = w8 at *
            go_wp2_with fail
            go_meet
            case rel => exact ⟨E', n', c', HF⟩
        case rest =>
          obtain ⟨E', n', c', HC⟩ := hcut
          generalize wc = w8 at *
          have p8 := HC.out.2.2.2.2.2.2.1
          obtain ⟨a', hEa⟩ := rgAddr HC.out.2.2.2.2.1 HC.out.2.2.1.rd (i := i) (r := f) (by rw [← hR']; exact at_place (by have := HN.out.1; have h2 := HI.out.1; omega))
          subst hEa
          have HR := Lib.hid hR'
          have hlt : i < n' := by
            have h1 := HC.out.1
            rw [← hR', List.length_append, List.length_take] at h1
            have := HN.out.1; have h2 := HI.out.1
            simp at h1
            omega
          have hn2 : n' ≤ 1001 := by
            have h1 := HC.out.1
            rw [← hR', List.length_append, List.length_append, List.length_take, List.length_drop] at h1
            have := HN.out.1; have := HN.out.2.1; have h2 := HI.out.1; have h3 := HJ.out.2.2.1; have h4 := HJ.out.2.2.2.1
            rw [Nat.min_eq_left (by omega)] at h1
            simp at h1
            omega
          have hsm : Small R' := by
            rw [← hR']
            intro q hq
            rcases List.mem_append.1 hq with hq | hq
            · exact HN.out.2.2.1 q (List.mem_of_mem_take hq)
            · rcases List.mem_append.1 hq with hq | hq
              · simp at hq; subst hq; exact HN.out.2.2.2.2.1
              · exact HN.out.2.2.1 q (List.mem_of_mem_drop hq)
          have HAD := Lib.hid (adv_any g a' i c' cov n' R' rs HC.out.1 (by omega) hsm hlt HN.out.2.2.2.2.2.2.1 (fun h => HC.out.2.2.2.2.2.1 (by simp [h])) w8 HC.out.2.1 HC.out.2.2.1.rd)
          obtain ⟨z, hz⟩ : ∃ z, b + (m : Int) = z := ⟨_, rfl⟩
          have HZZ : Hid (z = (m : Int) - (bytesOf (eaten R i f) : Int) ∧ y = 1 - ((eaten R i f).length : Int) ∧ i + (eaten R i f).length = j) := Lib.hid (by
            have h1 := HJ.out.2.1; have h2 := HJ.out.2.2.2.2.1; have h3 := HY.out.1; have h4 := HJ.out.2.2.1; have h5 := HJ.out.2.2.2.1; have h6 := HN.out.1
            rw [h2, List.length_take, List.length_drop]
            refine ⟨by omega, by omega, by omega⟩)
          have hzb := z_bound (bytes_le (small_len HN.out.2.2.1) HN.out.1 i t) HN.out.2.1 HJ.out.2.1 (show m ≤ 1000000 by have h1 := HN.out.2.2.2.2.1; have h2 := HN.out.2.2.2.2.2.1; unfold Rg.fin at h1; omega) hz
          have W3 : Hid (wrap64 z = z) := Lib.hid (by unfold wrap64; omega)
          have W4 : Hid (IntKind.i64.wrap z = z) := Lib.hid (by rw [IntKind.wrap_i64]; omega)
          clear hR' hlt hn2 hsm hzb hy hav
          go_wp2_with fail
          refine HAD.out.mono ?_
          rintro e w9 ⟨rfl, hk9, ht9⟩
          have HF9 := Lib.hid (And.intro hk9 ht9)
          clear hk9 ht9 p8 HAD
          have w3' := W3.out
          have w4' := W4.out
          go_wp2_with fail
          go_ret3
          have e1 : (1 : Int) - ((eaten R i f).length : Int) = y := HZZ.out.2.1.symm
          have e2 : (f.l.length : Int) - (bytesOf (eaten R i f) : Int) = z := by rw [HN.out.2.2.2.2.2.1]; exact HZZ.out.1.symm
          have e3 : addR R f i = R' := by rw [addR, HZZ.out.2.2]; exact HR.out
          refine ⟨i, HI.out.2, .inr (.inr ⟨HCV.out, by rw [e1]; have h := HAV.out; omega, by rw [e1, e2]; rfl, some ⟨a', 0, none⟩, n', c', by rw [e3]; exact HC.out.1, by rw [e3]; exact HF9.out.1, by
            rw [e3]
            refine HC.out.2.2.1.tch HF9.out.2 (.inr ⟨a', rfl, ?_⟩)
            have h2 := HC.out.2.2.2.2.2.1
            simpa using h2, HC.out.2.2.2.1, HC.out.2.2.2.2.1, HC.out.2.2.2.2.2.1, HC.out.2.2.2.2.2.2.2.trans (HF9.out.2.more (by simp))⟩)⟩
  · go_wp2_with fail
    go_ret3
    exact ⟨i, HI.out.2, .inl ⟨HCV.out, rfl, H5.out.bel⟩⟩
end Go.Proofs.YtadblfnggmaadaaDoor
