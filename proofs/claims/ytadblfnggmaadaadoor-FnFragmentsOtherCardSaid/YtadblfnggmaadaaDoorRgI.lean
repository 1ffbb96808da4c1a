/- What lies in memory while pieces are added, and what is told. -/
import Derived.Test.YtadblfnggmaadaaDoorRgH
import Derived.Test.YtadblfnggmaadaaDoorRgP
namespace Go.Proofs.YtadblfnggmaadaaDoor
open Go.RowKit Go.Cv
set_option maxRecDepth 100000
set_option linter.unusedVariables false
/-! ### rows of things of several cells -/
def rowsOf {α : Type} (f : α → List Value) (T : List α) : List Value := T.flatMap f
theorem rowsOf_nil {α : Type} (f : α → List Value) : rowsOf f [] = [] := rfl
theorem rowsOf_cons {α : Type} (f : α → List Value) (a : α) (T : List α) : rowsOf f (a :: T) = f a ++ rowsOf f T := rfl
theorem rowsOf_append {α : Type} (f : α → List Value) (T U : List α) : rowsOf f (T ++ U) = rowsOf f T ++ rowsOf f U := by simp [rowsOf]
theorem rowsOf_length {α : Type} (f : α → List Value) (k : Nat) (hk : ∀ a, (f a).length = k) (T : List α) : (rowsOf f T).length = T.length * k := by
  induction T with
  | nil => simp [rowsOf]
  | cons a T ih => rw [rowsOf_cons, List.length_append, hk, ih, List.length_cons, Nat.succ_mul]; omega
theorem rowsOf_get {α : Type} (f : α → List Value) (k : Nat) (hk : ∀ a, (f a).length = k) : ∀ (T : List α) (j : Nat) (a : α) (m : Nat), T[j]? = some a → m < k → (rowsOf f T)[j * k + m]? = (f a)[m]?
  | [], j, a, m, h, _ => by simp at h
  | b :: T, 0, a, m, h, hm => by
    simp at h; subst h
    rw [rowsOf_cons, Nat.zero_mul, Nat.zero_add, List.getElem?_append_left (by rw [hk]; exact hm)]
  | b :: T, j + 1, a, m, h, hm => by
    rw [rowsOf_cons, List.getElem?_append_right (by rw [hk, Nat.succ_mul]; omega), hk, show (j + 1) * k + m - k = j * k + m by rw [Nat.succ_mul]; omega]
    exact rowsOf_get f k hk T j a m (by simpa using h) hm
theorem rowsOf_one {α : Type} (f : α → List Value) (h1 : ∀ a, ∀ v ∈ f a, v.oneCell' = true) (T : List α) : ∀ v ∈ rowsOf f T, v.oneCell' = true := by
  intro v hv
  simp only [rowsOf, List.mem_flatMap] at hv
  obtain ⟨a, _, hv⟩ := hv
  exact h1 a v hv
theorem rowsCell {α : Type} {f : α → List Value} {k : Nat} (hk : ∀ a, (f a).length = k) {w : World} {b o : Nat} {T : List α} (hr : Rd w (some ⟨b, o, none⟩) (rowsOf f T)) (j : Nat) (a : α) (hj : T[j]? = some a) (m : Nat) (hm : m < k) (v : Value) (hv : (f a)[m]? = some v) :
    w.cell? ⟨b, o + j * k + m, none⟩ = some v := by
  have h1 := rowsOf_get f k hk T j a m hj hm
  rw [hv] at h1
  rcases hr with hr | ⟨b', o', hA, hr⟩
  · rw [hr] at h1; simp at h1
  · injection hA with hA
    injection hA with hb ho
    subst hb ho
    rw [Nat.add_assoc]
    exact hr _ _ h1
/-! ### what is told -/
structure Tl where
  ok : Bool
  fr : Int
  by_ : Int
  cov : Nat
  R : List Rg
  A1 : Option Addr
  c1 : Nat
  A2 : Option Addr
  c2 : Nat
def tlv (t : Tl) : List Value := [.bool t.ok, .int .i64 t.fr, .int .i64 t.by_, .int .u32 (t.cov : Nat), .slice t.A1 t.R.length t.c1, .slice t.A2 t.R.length t.c2]
theorem tlv_length (t : Tl) : (tlv t).length = 6 := rfl
theorem tlv_one (t : Tl) : ∀ v ∈ tlv t, v.oneCell' = true := by
  intro v hv
  simp [tlv] at hv
  rcases hv with rfl | rfl | rfl | rfl | rfl | rfl <;> rfl
def offs (R : List Rg) : List Value := R.map fun r => .int .u32 (r.off : Nat)
def txts (R : List Rg) : List Value := R.map fun r => .string (S r.l)
structure St where
  off : Nat
  l : List UInt8
  av : Int
def stv (s : St) : List Value := [.int .u32 (s.off : Nat), .string (S s.l), .int .i64 s.av]
theorem stv_length (s : St) : (stv s).length = 3 := rfl
theorem stv_one (s : St) : ∀ v ∈ stv s, v.oneCell' = true := by
  intro v hv
  simp [stv] at hv
  rcases hv with rfl | rfl | rfl <;> rfl
/-- One step: what add says, in plain words. -/
def AddRel (R : List Rg) (cov : Nat) (f : Rg) (av : Int) (t : Tl) : Prop := ∃ i, Place R f i ∧
  (((covA R i f || covC R i f) = true ∧ t.ok = true ∧ t.fr = 0 ∧ t.by_ = 0 ∧ t.R = R ∧ t.cov = cov) ∨
   ((covA R i f || covC R i f) = false ∧ av < 1 - ((eaten R i f).length : Int) ∧ t.ok = false ∧ t.fr = 0 ∧ t.by_ = 0 ∧ t.R = R ∧ t.cov = cov) ∨
   ((covA R i f || covC R i f) = false ∧ ¬ av < 1 - ((eaten R i f).length : Int) ∧ t.ok = true ∧ t.fr = 1 - ((eaten R i f).length : Int) ∧ t.by_ = (f.l.length : Int) - (bytesOf (eaten R i f) : Int) ∧ t.R = addR R f i ∧ t.cov = advL ((addR R f i).drop i) cov))
def stR (T : List Tl) : Nat → List Rg
  | 0 => []
  | k + 1 => match T[k]? with | some t => t.R | none => []
def stC (T : List Tl) : Nat → Nat
  | 0 => 0
  | k + 1 => match T[k]? with | some t => t.cov | none => 0
def Chain (s : List St) (T : List Tl) : Prop := ∀ (j : Nat) (x : St) (t : Tl), s[j]? = some x → T[j]? = some t → ∃ A c, AddRel (stR T j) (stC T j) ⟨x.off, A, c, x.l⟩ x.av t
theorem stR_snoc (T : List Tl) (t : Tl) : ∀ j, j ≤ T.length → stR (T ++ [t]) j = stR T j ∧ stC (T ++ [t]) j = stC T j
  | 0, _ => ⟨rfl, rfl⟩
  | j + 1, h => by
    have e : (T ++ [t])[j]? = T[j]? := List.getElem?_append_left (by omega)
    simp only [stR, stC, e, and_self]
theorem stR_last (T : List Tl) (t : Tl) : stR (T ++ [t]) (T.length + 1) = t.R ∧ stC (T ++ [t]) (T.length + 1) = t.cov := by
  have e : (T ++ [t])[T.length]? = some t := by simp
  simp only [stR, stC, e, and_self]
theorem Chain.snoc {s : List St} {T : List Tl} {t : Tl} {x : St} {A : Option Addr} {c : Nat} (h : Chain s T) (hx : s[T.length]? = some x) (ha : AddRel (stR T T.length) (stC T T.length) ⟨x.off, A, c, x.l⟩ x.av t) : Chain s (T ++ [t]) := by
  intro j y u hy hu
  by_cases hj : j < T.length
  · rw [List.getElem?_append_left hj] at hu
    obtain ⟨h1, h2⟩ := stR_snoc T t j (by omega)
    rw [h1, h2]
    exact h j y u hy hu
  · have hl := (List.getElem?_eq_some_iff.1 hu).1
    simp at hl
    obtain rfl : j = T.length := by omega
    rw [hx] at hy; cases hy
    simp at hu; subst hu
    obtain ⟨h1, h2⟩ := stR_snoc T t T.length (Nat.le_refl _)
    rw [h1, h2]
    exact ⟨A, c, ha⟩
/-! ### rows that stay -/
def Safe (w : World) (X : List Nat) (A : Option Addr) (xs : List Value) : Prop := xs = [] ∨ ∃ b, A = some ⟨b, 0, none⟩ ∧ b < w.heap.size ∧ b ∉ X ∧ Rd w (some ⟨b, 0, none⟩) xs
theorem Safe.rd {w : World} {X : List Nat} {A : Option Addr} {xs : List Value} (h : Safe w X A xs) : Rd w A xs := by
  rcases h with h | ⟨b, rfl, _, _, h⟩
  · exact .inl h
  · exact h
theorem Safe.tch {w w' : World} {X L : List Nat} {A : Option Addr} {xs : List Value} (h : Safe w X A xs) (ht : Tch L w w') (hL : ∀ k ∈ L, k ∈ X ∨ w.heap.size ≤ k) : Safe w' X A xs := by
  rcases h with h | ⟨b, h1, h2, h3, h4⟩
  · exact .inl h
  · exact .inr ⟨b, h1, Nat.lt_of_lt_of_le h2 ht.size, h3, h4.tch ht (fun hm => by rcases hL b hm with h | h; exact h3 h; omega)⟩
theorem Safe.re {w : World} {X Y : List Nat} {A : Option Addr} {xs : List Value} (h : Safe w X A xs) (hY : ∀ k ∈ Y, k ∈ X ∨ w.heap.size ≤ k) : Safe w Y A xs := by
  rcases h with h | ⟨b, h1, h2, h3, h4⟩
  · exact .inl h
  · exact .inr ⟨b, h1, h2, fun hm => by rcases hY b hm with h | h; exact h3 h; omega, h4⟩
theorem Safe.sub {w : World} {X Y : List Nat} {A : Option Addr} {xs : List Value} (h : Safe w X A xs) (hY : ∀ k ∈ Y, k ∈ X) : Safe w Y A xs := by
  rcases h with h | ⟨b, h1, h2, h3, h4⟩
  · exact .inl h
  · exact .inr ⟨b, h1, h2, fun hm => h3 (hY b hm), h4⟩
def exc (g : Nat) (E O : Option Addr) : List Nat := g :: ((E.map (·.block)).toList ++ (O.map (·.block)).toList)
theorem exc_mem {g k : Nat} {E O : Option Addr} : k ∈ exc g E O ↔ k = g ∨ E.map (·.block) = some k ∨ O.map (·.block) = some k := by
  simp only [exc, List.mem_cons, List.mem_append, Option.mem_toList]
theorem own_loS {w : World} {B sz n c : Nat} {A : Option Addr} {xs : List Value} (h : Own w B sz A n c xs) (hn : 0 < n) (hz : 0 < sz) : Lo A w := fun a ha => by
  obtain ⟨h1, h2, _, h0 | ⟨b, o, rfl, _, _, hs, _⟩⟩ := h
  · omega
  · simp at ha
    subst ha
    obtain ⟨u, hu⟩ := Option.isSome_iff_exists.1 (hs 0 (Nat.mul_pos (by omega) hz))
    exact block_lt hu
/-- The memory of the run. -/
structure RgM (g z n c cov : Nat) (E : Option Addr) (R : List Rg) (rs : List Value) (O : Option Addr) (k co : Nat) (T : List Tl) (w0 w : World) : Prop where
  bel : Below w0.heap.size w0 w
  bg : w0.heap.size ≤ g
  zz : Blk w z 59 #[.pointer (some ⟨g, 0, none⟩)]
  zn : z ∉ exc g E O
  fr : Blk w g 92 (frRow E n c cov rs)
  row : Own w 0 2 E n c (rgs R)
  hiE : Hi w0.heap.size E
  loE : Lo E w
  neE : E.map (·.block) ≠ some g
  out : Own w 0 6 O k co (rowsOf tlv T)
  hiO : Hi w0.heap.size O
  loO : Lo O w
  neO : O.map (·.block) ≠ some g
  eo : ∀ a, E.map (·.block) = some a → O.map (·.block) ≠ some a
  dat : ∀ r ∈ R, Safe w (exc g E O) r.A (vs r.l)
  tld : ∀ t ∈ T, Safe w (exc g E O) t.A1 (offs t.R) ∧ Safe w (exc g E O) t.A2 (txts t.R)
theorem RgM.keep {g z n c cov : Nat} {E : Option Addr} {R : List Rg} {rs : List Value} {O : Option Addr} {k co : Nat} {T : List Tl} {w0 w w' : World} (h : RgM g z n c cov E R rs O k co T w0 w) (hb : Below w.heap.size w w') : RgM g z n c cov E R rs O k co T w0 w' :=
  ⟨below_two h.bel hb, h.bg, h.zz.keep hb, h.zn, h.fr.keep hb, h.row.keep hb, h.hiE, h.loE.mono hb.size, h.neE, h.out.keep hb, h.hiO, h.loO.mono hb.size, h.neO, h.eo,
    fun r hr => (h.dat r hr).tch (Tch.below hb []) (by simp), fun t ht => ⟨((h.tld t ht).1).tch (Tch.below hb []) (by simp), ((h.tld t ht).2).tch (Tch.below hb []) (by simp)⟩⟩
theorem Hi.low {b : Nat} {A : Option Addr} (h : Hi b A) : Hi 0 A := by
  rcases h with h | ⟨a, h, _⟩
  · exact .inl h
  · exact .inr ⟨a, h, Nat.zero_le _⟩
/-- A piece was added. -/
theorem RgM.add {g z n c cov n' c' cov' : Nat} {E E' : Option Addr} {R R' : List Rg} {rs : List Value} {O : Option Addr} {k co : Nat} {T : List Tl} {w0 w w' : World} (h : RgM g z n c cov E R rs O k co T w0 w)
    (hl : R'.length = n') (hpos : 0 < n') (hb : Blk w' g 92 (frRow E' n' c' cov' rs)) (hO : Own w' 0 2 E' n' c' (rgs R')) (hM : Moved E E' w w') (hE : Hi 0 E') (hne : E'.map (·.block) ≠ some g) (hT : Tch (g :: (E.map (·.block)).toList) w w')
    (hd : ∀ r ∈ R', Safe w (exc g E O) r.A (vs r.l)) : RgM g z n' c' cov' E' R' rs O k co T w0 w' := by
  have hsz : w0.heap.size ≤ w.heap.size := h.bel.size
  have hL : ∀ q ∈ g :: (E.map (·.block)).toList, q ∈ exc g E O ∨ w.heap.size ≤ q := by
    intro q hq
    refine .inl (exc_mem.2 ?_)
    rcases List.mem_cons.1 hq with h1 | h1
    · exact .inl h1
    · exact .inr (.inl (by simpa using h1))
  have hX : ∀ q ∈ exc g E O ++ exc g E' O, q ∈ exc g E O ∨ w.heap.size ≤ q := by
    intro q hq
    rcases List.mem_append.1 hq with hq | hq
    · exact .inl hq
    rcases exc_mem.1 hq with h1 | h1 | h1
    · exact .inl (exc_mem.2 (.inl h1))
    · rcases hM with rfl | ⟨a, rfl, ha⟩
      · exact .inl (exc_mem.2 (.inr (.inl h1)))
      · simp at h1; subst h1; exact .inr ha
    · exact .inl (exc_mem.2 (.inr (.inr h1)))
  have hsafe : ∀ (A : Option Addr) (xs : List Value), Safe w (exc g E O) A xs → Safe w' (exc g E' O) A xs := fun A xs hs =>
    ((hs.re hX).tch hT (fun q hq => (hL q hq).imp (fun h => List.mem_append.2 (.inl h)) id)).sub (fun q hq => List.mem_append.2 (.inr hq))
  have hzn : z ∉ g :: (E.map (·.block)).toList := fun hm => h.zn (by
    rcases List.mem_cons.1 hm with h1 | h1
    · exact exc_mem.2 (.inl h1)
    · exact exc_mem.2 (.inr (.inl (by simpa using h1))))
  have hOn : O = none ∨ ∃ a, O = some ⟨a, 0, none⟩ ∧ a ∉ g :: (E.map (·.block)).toList := by
    rcases h.hiO with h1 | ⟨a, h1, _⟩
    · exact .inl h1
    · refine .inr ⟨a, h1, fun hm => ?_⟩
      rcases List.mem_cons.1 hm with h2 | h2
      · exact h.neO (by rw [h1]; simp [h2])
      · exact h.eo a (by simpa using h2) (by rw [h1]; rfl)
  refine ⟨?_, h.bg, h.zz.tch hT hzn, ?_, hb, hO, ?_, own_loS hO hpos (by omega), hne, h.out.tch hT hOn, h.hiO, h.loO.mono hT.size, h.neO, ?_, fun r hr => hsafe _ _ (hd r hr), fun t ht => ⟨hsafe _ _ (h.tld t ht).1, hsafe _ _ (h.tld t ht).2⟩⟩
  · refine ((Tch.below h.bel []).then hT (fun q hq => .inr ?_)).toBelow (Nat.le_refl _)
    rcases List.mem_cons.1 hq with h1 | h1
    · rw [h1]; exact h.bg
    · exact h.hiE.inn q h1
  · intro hm
    rcases exc_mem.1 hm with h1 | h1 | h1
    · exact h.zn (exc_mem.2 (.inl h1))
    · rcases hM with rfl | ⟨a, rfl, ha⟩
      · exact h.zn (exc_mem.2 (.inr (.inl h1)))
      · simp at h1; have := h.zz.lt; omega
    · exact h.zn (exc_mem.2 (.inr (.inr h1)))
  · rcases hM with rfl | ⟨a, rfl, ha⟩
    · exact h.hiE
    · exact .inr ⟨a, rfl, Nat.le_trans hsz ha⟩
  · intro a ha hOa
    rcases hM with rfl | ⟨b, rfl, hb2⟩
    · exact h.eo a ha hOa
    · simp at ha; subst ha
      have := h.loO b hOa
      omega
/-- Something was told. -/
theorem RgM.told {g z n c cov k co co' : Nat} {E O O' : Option Addr} {R : List Rg} {rs : List Value} {T : List Tl} {t : Tl} {w0 w w' : World} (h : RgM g z n c cov E R rs O k co T w0 w)
    (hO : Own w' 0 6 O' (k + 1) co' (rowsOf tlv (T ++ [t]))) (hg : w.grownBy w' (O.map (·.block))) (hor : (O' = O ∧ co' = co) ∨ O' = some ⟨w.heap.size, 0, none⟩)
    (h1 : Safe w (exc g E O) t.A1 (offs t.R)) (h2 : Safe w (exc g E O) t.A2 (txts t.R)) : RgM g z n c cov E R rs O' (k + 1) co' (T ++ [t]) w0 w' := by
  have hsz : w0.heap.size ≤ w.heap.size := h.bel.size
  have hT := Tch.grown hg
  have hL : ∀ q ∈ (O.map (·.block)).toList, q ∈ exc g E O ∨ w.heap.size ≤ q := fun q hq => .inl (exc_mem.2 (.inr (.inr (by simpa using hq))))
  have hX : ∀ q ∈ exc g E O ++ exc g E O', q ∈ exc g E O ∨ w.heap.size ≤ q := by
    intro q hq
    rcases List.mem_append.1 hq with hq | hq
    · exact .inl hq
    rcases exc_mem.1 hq with h3 | h3 | h3
    · exact .inl (exc_mem.2 (.inl h3))
    · exact .inl (exc_mem.2 (.inr (.inl h3)))
    · rcases hor with ⟨rfl, _⟩ | rfl
      · exact .inl (exc_mem.2 (.inr (.inr h3)))
      · simp at h3; exact .inr (by omega)
  have hsafe : ∀ (A : Option Addr) (xs : List Value), Safe w (exc g E O) A xs → Safe w' (exc g E O') A xs := fun A xs hs =>
    ((hs.re hX).tch hT (fun q hq => (hL q hq).imp (fun h => List.mem_append.2 (.inl h)) id)).sub (fun q hq => List.mem_append.2 (.inr hq))
  have hgn : g ∉ (O.map (·.block)).toList := fun hm => h.neO (by simpa using hm)
  have hzn : z ∉ (O.map (·.block)).toList := fun hm => h.zn (exc_mem.2 (.inr (.inr (by simpa using hm))))
  have hEn : E = none ∨ ∃ a, E = some ⟨a, 0, none⟩ ∧ a ∉ (O.map (·.block)).toList := by
    rcases h.hiE with h1 | ⟨a, h1, _⟩
    · exact .inl h1
    · exact .inr ⟨a, h1, fun hm => h.eo a (by rw [h1]; rfl) (by simpa using hm)⟩
  refine ⟨?_, h.bg, h.zz.tch hT hzn, ?_, h.fr.tch hT hgn, h.row.tch hT hEn, h.hiE, h.loE.mono hT.size, h.neE, hO, h.hiO.new hor hsz, own_loS hO (Nat.succ_pos k) (by omega), ?_, ?_, fun r hr => hsafe _ _ (h.dat r hr), fun u hu => ?_⟩
  · refine ((Tch.below h.bel []).then hT (fun q hq => .inr (h.hiO.inn q hq))).toBelow (Nat.le_refl _)
  · intro hm
    rcases exc_mem.1 hm with h3 | h3 | h3
    · exact h.zn (exc_mem.2 (.inl h3))
    · exact h.zn (exc_mem.2 (.inr (.inl h3)))
    · rcases hor with ⟨rfl, _⟩ | rfl
      · exact h.zn (exc_mem.2 (.inr (.inr h3)))
      · simp at h3; have := h.zz.lt; omega
  · rcases hor with ⟨rfl, _⟩ | rfl
    · exact h.neO
    · have := h.fr.lt; simp; omega
  · intro a ha hOa
    rcases hor with ⟨rfl, _⟩ | rfl
    · exact h.eo a ha hOa
    · simp at hOa
      have := h.loE a ha
      omega
  · rcases List.mem_append.1 hu with hu | hu
    · exact ⟨hsafe _ _ (h.tld u hu).1, hsafe _ _ (h.tld u hu).2⟩
    · simp at hu; subst hu
      exact ⟨hsafe _ _ h1, hsafe _ _ h2⟩
end Go.Proofs.YtadblfnggmaadaaDoor
