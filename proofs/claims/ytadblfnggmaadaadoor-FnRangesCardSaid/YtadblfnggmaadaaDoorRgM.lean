/- The law of a message's pieces. -/
import Derived.Test.YtadblfnggmaadaaDoorRgL
namespace Go.Proofs.YtadblfnggmaadaaDoor
open Go.RowKit Go.Cv
set_option maxRecDepth 100000
set_option linter.unusedVariables false
/-! ### plain -/
def pcv (z : Int × Int) : List Value := [.int .i64 z.1, .int .i64 z.2]
theorem pcv_length (z : Int × Int) : (pcv z).length = 2 := rfl
/-- A step is what its piece says. -/
def Stp (body : List UInt8) (ps : List (Int × Int)) (avs : List Int) (j : Nat) (x : St) : Prop := ∃ a b : Nat, ps[j]? = some ((a : Int), (b : Int)) ∧ a < b ∧ b ≤ body.length ∧ x.off = a ∧ x.l = (body.take b).drop a ∧ avs[j]? = some x.av ∧ 0 ≤ x.av
theorem Stp.len {body : List UInt8} {ps : List (Int × Int)} {avs : List Int} {j : Nat} {x : St} (h : Stp body ps avs j x) : x.off + x.l.length ≤ body.length ∧ 0 < x.l.length ∧ x.l = (body.take (x.off + x.l.length)).drop x.off := by
  obtain ⟨a, b, _, h1, h2, h3, h4, _⟩ := h
  have e : x.l.length = b - a := by rw [h4, List.length_drop, List.length_take]; omega
  refine ⟨by omega, by omega, ?_⟩
  rw [e, h3, show a + (b - a) = b by omega, h4]
structure Step (body : List UInt8) (R : List Rg) (cov : Nat) (x : St) (t : Tl) : Prop where
  yes : t.ok = true → ∀ k, CovBy t.R k ↔ (CovBy R k ∨ (x.off ≤ k ∧ k < x.off + x.l.length))
  no : t.ok = false → t.R = R ∧ t.fr = 0 ∧ t.by_ = 0 ∧ x.av ≤ 0
  num : (R.length : Int) + t.fr = (t.R.length : Int)
  sum : (bytesOf R : Int) + t.by_ = (bytesOf t.R : Int)
  kept : Kept body t.R t.cov
  few : t.R.length ≤ R.length + 1
theorem step_told {body : List UInt8} {R : List Rg} {cov : Nat} {x : St} {t : Tl} {A : Option Addr} {c : Nat} (hK : Kept body R cov) (hb : x.off + x.l.length ≤ body.length) (hx : x.l = (body.take (x.off + x.l.length)).drop x.off)
    (h : AddRel R cov ⟨x.off, A, c, x.l⟩ x.av t) : Step body R cov x t := by
  obtain ⟨i, hp, h⟩ := h
  rcases h with ⟨h1, h2, h3, h4, h5, h6⟩ | ⟨h1, h2, h3, h4, h5, h6, h7⟩ | ⟨h1, h2, h3, h4, h5, h6, h7⟩
  · refine ⟨fun _ k => ?_, fun h => (by rw [h2] at h; cases h), by rw [h5, h3]; omega, by rw [h5, h4]; omega, by rw [h5, h6]; exact hK, by rw [h5]; omega⟩
    rw [h5]
    exact ⟨.inl, fun h => h.elim id (fun h => cov_there hp h1 k h.1 h.2)⟩
  · refine ⟨fun h => (by rw [h3] at h; cases h), fun _ => ⟨h6, h4, h5, ?_⟩, by rw [h6, h4]; omega, by rw [h6, h5]; omega, by rw [h6, h7]; exact hK, by rw [h6]; omega⟩
    omega
  · have ha : covA R i ⟨x.off, A, c, x.l⟩ = false := by revert h1; cases covA R i ⟨x.off, A, c, x.l⟩ <;> simp
    have hc : covC R i ⟨x.off, A, c, x.l⟩ = false := by revert h1; cases covC R i ⟨x.off, A, c, x.l⟩ <;> simp
    have hn := addR_count hp (f := ⟨x.off, A, c, x.l⟩)
    refine ⟨fun _ k => ?_, fun h => (by rw [h3] at h; cases h), by rw [h6, h4]; omega, by rw [h6, h5]; have := hn.2; omega, by rw [h6, h7]; exact addR_kept hK hp hb hx ha hc, by rw [h6]; have := hn.1; omega⟩
    rw [h6]
    exact addR_cov hp k
theorem kept_all {body : List UInt8} {ps : List (Int × Int)} {avs : List Int} {s : List St} {T : List Tl} (hc : Chain s T) (hl : T.length = s.length) (hs : ∀ j x, s[j]? = some x → Stp body ps avs j x) :
    ∀ i, i ≤ T.length → Kept body (stR T i) (stC T i) ∧ (stR T i).length ≤ i
  | 0, _ => ⟨Kept.start body, Nat.le_refl _⟩
  | i + 1, h => by
    obtain ⟨h1, h2⟩ := kept_all hc hl hs i (by omega)
    obtain ⟨t, ht⟩ : ∃ t, T[i]? = some t := ⟨_, List.getElem?_eq_getElem (by omega)⟩
    obtain ⟨x, hx⟩ : ∃ x, s[i]? = some x := ⟨_, List.getElem?_eq_getElem (by omega)⟩
    obtain ⟨A, c, ha⟩ := hc i x t hx ht
    have hst := (hs i x hx).len
    have h3 := step_told h1 hst.1 hst.2.2 ha
    have e1 : stR T (i + 1) = t.R := by simp only [stR, ht]
    have e2 : stC T (i + 1) = t.cov := by simp only [stC, ht]
    rw [e1, e2]
    exact ⟨h3.kept, by have := h3.few; omega⟩
theorem step_at {body : List UInt8} {ps : List (Int × Int)} {avs : List Int} {s : List St} {T : List Tl} (hc : Chain s T) (hl : T.length = s.length) (hs : ∀ j x, s[j]? = some x → Stp body ps avs j x) (i : Nat) (x : St) (t : Tl) (hx : s[i]? = some x) (ht : T[i]? = some t) :
    Step body (stR T i) (stC T i) x t ∧ stR T (i + 1) = t.R ∧ stC T (i + 1) = t.cov := by
  obtain ⟨h1, _⟩ := kept_all hc hl hs i (by have := (List.getElem?_eq_some_iff.1 ht).1; omega)
  obtain ⟨A, c, ha⟩ := hc i x t hx ht
  have hst := (hs i x hx).len
  exact ⟨step_told h1 hst.1 hst.2.2 ha, by simp only [stR, ht], by simp only [stC, ht]⟩
theorem bytes_few {body : List UInt8} {R : List Rg} {cov : Nat} (h : Kept body R cov) : bytesOf R ≤ R.length * body.length := by
  have h1 : ∀ r ∈ R, r.l.length ≤ body.length := fun r hr => by have h2 := h.fin r hr; unfold Rg.fin at h2; omega
  clear h
  induction R with
  | nil => simp [bytesOf]
  | cons r R ih =>
    have h2 := ih (fun x hx => h1 x (List.mem_cons_of_mem _ hx))
    have h3 := h1 r (by simp)
    have e : bytesOf (r :: R) = r.l.length + bytesOf R := by simp [bytesOf]
    rw [e, List.length_cons, Nat.succ_mul]
    omega
theorem few_sizes {body : List UInt8} {R : List Rg} {cov nr yb : Nat} (h : Kept body R cov) (hb : body.length ≤ 2000) (hl : R.length ≤ 100) (h1 : R.length = nr) (h2 : bytesOf R = yb) : nr ≤ 2000 ∧ yb ≤ 200000 := by
  have h3 := bytes_few h
  have h4 : R.length * body.length ≤ 100 * 2000 := Nat.mul_le_mul hl hb
  omega
theorem ms_to {P : Prop} {a s k : Nat} (h : a ≤ s) : ((P ∨ (a ≤ k ∧ k < s)) ∨ k = s) ↔ (P ∨ (a ≤ k ∧ k < s + 1)) := by
  constructor
  · rintro ((h1 | h1) | h1)
    · exact .inl h1
    · exact .inr (by omega)
    · exact .inr (by omega)
  · rintro (h1 | h1)
    · exact .inl (.inl h1)
    · rcases Nat.lt_or_ge k s with h2 | h2
      · exact .inl (.inr ⟨h1.1, h2⟩)
      · exact .inr (by omega)
theorem small_most (n : Nat) (h : n ≤ 2000) : decide ((2147483647 : Int) < (n : Int)) = false := by simp; omega
theorem i64_at {w : World} {b o : Nat} {l : List Int} (h : Rd w (some ⟨b, o, none⟩) (l.map (Value.int .i64))) (j : Nat) (x : Int) (hj : l[j]? = some x) : w.cell? ⟨b, o + j, none⟩ = some (.int .i64 x) := by
  have e : (l.map (Value.int .i64))[j]? = some (.int .i64 x) := by simp [hj]
  rcases h with h | ⟨b', o', hA, h⟩
  · rw [h] at e; simp at e
  · injection hA with hA; injection hA with h1 h2; subst h1 h2
    exact h j _ e
theorem stepinfo : (Tryd.prog.info? 29).map (fun i => (i.zero, i.size, i.bytes)) = some (some (.agg #[.int .u32 0, .string ByteArray.empty, .int .i64 0]), 3, 32) := by kernel_rfl
/-! ### the law -/
set_option maxHeartbeats 4000000 in
theorem rangesLaw (body : List UInt8) (A : Option Addr) (n c : Nat) (ps : List (Int × Int)) (hn : ps.length = n) (hnc : n ≤ c) (A2 : Option Addr) (m c2 : Nat) (avs : List Int) (hm : avs.length = m) (hmc : m ≤ c2) (ad : Addr) (w : World) (hr : Rd w A (rowsOf pcv ps)) (hr2 : Rd w A2 (avs.map (Value.int .i64))) (hev : w.cell? ⟨0, 0, none⟩ = some (.iface 131 (.pointer (some ad)))) :
    Calls Tryd.prog 3 #[.string (S body), .slice A n c, .slice A2 m c2] w fun e w' => e = .returned (.bool true) ∧ Below w.heap.size w w' := by
  obtain ⟨L, hL⟩ : ∃ L, body.length = L := ⟨_, rfl⟩
  have z0 : (S body).size = L := by rw [S_size, hL]
  have HR := Lib.hid (And.intro hr hr2)
  have HN := Lib.hid (And.intro hn (And.intro hnc (And.intro hm (And.intro hmc hL))))
  have HEV := Lib.hid hev
  clear hr hr2 hn hnc hm hmc hL hev
  by_cases h4 : (2000 : Int) < (L : Int)
  · have t4 : decide ((2000 : Int) < (L : Int)) = true := by simpa using h4
    clear h4
    obtain ⟨d1, h1⟩ : ∃ d, decide ((2147483647 : Int) < (L : Int)) = d := ⟨_, rfl⟩
    obtain ⟨d2, h2⟩ : ∃ d, decide ((2147483647 : Int) < (n : Int)) = d := ⟨_, rfl⟩
    obtain ⟨d3, h3⟩ : ∃ d, decide ((2147483647 : Int) < (m : Int)) = d := ⟨_, rfl⟩
    cases d1 <;> cases d2 <;> cases d3 <;> (go_enter Tryd.func3, Tryd.ntmps3; go_wp2_with fail; go_ret; exact ⟨rfl, Below.refl _ _⟩)
  have t4 : decide ((2000 : Int) < (L : Int)) = false := by simpa using h4
  have hL2 : L ≤ 2000 := by omega
  have t1 := small_most L hL2
  clear h4
  by_cases h5 : (60 : Int) < (n : Int)
  · have t5 : decide ((60 : Int) < (n : Int)) = true := by simpa using h5
    clear h5 hL2
    obtain ⟨d2, h2⟩ : ∃ d, decide ((2147483647 : Int) < (n : Int)) = d := ⟨_, rfl⟩
    obtain ⟨d3, h3⟩ : ∃ d, decide ((2147483647 : Int) < (m : Int)) = d := ⟨_, rfl⟩
    cases d2 <;> cases d3 <;> (go_enter Tryd.func3, Tryd.ntmps3; go_wp2_with fail; go_ret; exact ⟨rfl, Below.refl _ _⟩)
  have t5 : decide ((60 : Int) < (n : Int)) = false := by simpa using h5
  have hn60 : n ≤ 60 := by omega
  have t2 := small_most n (by omega)
  clear h5
  by_cases h6 : m < n
  · have t6 : decide (m < n) = true := by simpa using h6
    have t3 := small_most m (by omega)
    clear h6 hL2 hn60
    go_enter Tryd.func3, Tryd.ntmps3
    go_wp2_with fail
    go_ret
    exact ⟨rfl, Below.refl _ _⟩
  have t6 : decide (m < n) = false := by simpa using h6
  have hnm : n ≤ m := by omega
  clear h6
  obtain ⟨d3, t3⟩ : ∃ d, decide ((2147483647 : Int) < (m : Int)) = d := ⟨_, rfl⟩
  cases d3
  case true =>
    clear hL2 hn60 hnm
    go_enter Tryd.func3, Tryd.ntmps3
    go_wp2_with fail
    go_ret
    exact ⟨rfl, Below.refl _ _⟩
  case false =>
  have HB := Lib.hid (And.intro hL2 (And.intro hn60 hnm))
  clear hL2 hn60 hnm
  go_enter Tryd.func3, Tryd.ntmps3
  go_wp2_with fail
  clear t1 t2 t3 t4 t5 t6
  go_loopw [48, 7] (fun x y wr => ∃ (j : Nat) (O : Option Addr) (co : Nat), j ≤ n ∧ x = .int .i64 (j : Nat) ∧ y = .slice O j co ∧ Hid (Below w.heap.size w wr ∧ Hi w.heap.size O ∧ ∃ s : List St, s.length = j ∧ (∀ k x, s[k]? = some x → Stp body ps avs k x) ∧ Own wr 0 3 O j co (rowsOf stv s))) (fun x _ _ => n - (intOf x).toNat)
  case atStart => exact ⟨0, none, 0, Nat.zero_le _, rfl, rfl, Lib.hid ⟨Below.refl _ _, .inl rfl, [], rfl, fun k x h => by simp at h, Own.nil _ _ _⟩⟩
  case round =>
    obtain ⟨j, O, co, hj, rfl, rfl, HM⟩ := hrel
    by_cases hlt : j < n
    · obtain ⟨z, hz⟩ : ∃ z, ps[j]? = some z := ⟨_, List.getElem?_eq_getElem (by rw [HN.out.1]; exact hlt)⟩
      obtain ⟨v, hv⟩ : ∃ v, avs[j]? = some v := ⟨_, List.getElem?_eq_getElem (by rw [HN.out.2.2.1]; have := HB.out.2.2; omega)⟩
      have hne : rowsOf pcv ps ≠ [] := fun h => by
        have := congrArg List.length h
        rw [rowsOf_length pcv 2 pcv_length, HN.out.1] at this; simp at this; omega
      have hne2 : avs.map (Value.int .i64) ≠ [] := fun h => by
        have := congrArg List.length h
        rw [List.length_map, HN.out.2.2.1] at this; simp at this; have := HB.out.2.2; omega
      obtain ⟨b1, o1, rfl, _⟩ := HR.out.1.resolve_left hne
      obtain ⟨b2, o2, rfl, _⟩ := HR.out.2.resolve_left hne2
      obtain ⟨za, zb⟩ := z
      have c0 := rowsCell pcv_length (HR.out.1.keep HM.out.1) j _ hz 0 (by omega) _ rfl
      have c1 := rowsCell pcv_length (HR.out.1.keep HM.out.1) j _ hz 1 (by omega) _ rfl
      rw [Nat.add_zero] at c0
      have jn : (j : Int) < n := by omega
      have jm : (j : Int) < m := by have := HB.out.2.2; omega
      have HZ := Lib.hid (And.intro hz hv)
      clear hz hv hne hne2
      go_upto_region 9 with (fail)
      have hb3 := below_alloc wr (.cells #[.int .i64 za, .int .i64 zb] 26)
      have hk3 := Blk.new wr 26 #[.int .i64 za, .int .i64 zb]
      obtain ⟨q, hq⟩ : ∃ q, wr.heap.size = q := ⟨_, rfl⟩
      rw [hq] at hk3
      simp only [hq]
      have HM3 : Hid (Below w.heap.size w (wr.alloc (.cells #[.int .i64 za, .int .i64 zb] 26)) ∧ Blk (wr.alloc (.cells #[.int .i64 za, .int .i64 zb] 26)) q 26 #[.int .i64 za, .int .i64 zb] ∧ Hi w.heap.size O ∧ ∃ s : List St, s.length = j ∧ (∀ k x, s[k]? = some x → Stp body ps avs k x) ∧ Own (wr.alloc (.cells #[.int .i64 za, .int .i64 zb] 26)) 0 3 O j co (rowsOf stv s)) := by
        obtain ⟨s, h1, h2, h3⟩ := HM.out.2.2
        exact Lib.hid ⟨below_two HM.out.1 hb3, hk3, HM.out.2.1, s, h1, h2, h3.keep hb3⟩
      clear hb3 hk3 c0 c1
      generalize wr.alloc (.cells #[.int .i64 za, .int .i64 zb] 26) = w3 at *
      have k0 : w3.cell? ⟨q, 0, none⟩ = some (.int .i64 za) := (HM3.out.2.1.cell 0).trans rfl
      have k1 : w3.cell? ⟨q, 1, none⟩ = some (.int .i64 zb) := (HM3.out.2.1.cell 1).trans rfl
      have k2 : w3.cell? ⟨b2, o2 + j, none⟩ = some (.int .i64 v) := i64_at (HR.out.2.keep HM3.out.1) j v HZ.out.2
      clear HM hq
      go_cut [83] (fun x wx => wx = w3 ∧ ∃ d : Bool, x = .bool d ∧ Hid (d = false → 0 ≤ za ∧ za < zb ∧ zb ≤ L ∧ 0 ≤ v))
      case first =>
        obtain ⟨d1, h1⟩ : ∃ d, decide (za < 0) = d := ⟨_, rfl⟩
        obtain ⟨d2, h2⟩ : ∃ d, decide (zb ≤ za) = d := ⟨_, rfl⟩
        obtain ⟨d3, h3⟩ : ∃ d, decide ((L : Int) < zb) = d := ⟨_, rfl⟩
        obtain ⟨d4, h4⟩ : ∃ d, decide (v < 0) = d := ⟨_, rfl⟩
        obtain ⟨d5, h5⟩ : ∃ d, decide ((1000 : Int) < v) = d := ⟨_, rfl⟩
        cases d1
        case true => go_wp2_with fail; go_meet; case rel => exact ⟨rfl, _, rfl, Lib.hid fun h => by cases h⟩
        case false =>
        cases d2
        case true => go_wp2_with fail; go_meet; case rel => exact ⟨rfl, _, rfl, Lib.hid fun h => by cases h⟩
        case false =>
        cases d3
        case true => go_wp2_with fail; go_meet; case rel => exact ⟨rfl, _, rfl, Lib.hid fun h => by cases h⟩
        case false =>
        cases d4
        case true => go_wp2_with fail; go_meet; case rel => exact ⟨rfl, _, rfl, Lib.hid fun h => by cases h⟩
        case false =>
        cases d5
        case true => go_wp2_with fail; go_meet; case rel => exact ⟨rfl, _, rfl, Lib.hid fun h => by cases h⟩
        case false =>
        have HOK : Hid (0 ≤ za ∧ za < zb ∧ zb ≤ L ∧ 0 ≤ v) := Lib.hid (by simp at h1 h2 h3 h4; omega)
        go_wp2_with fail
        go_meet
        case rel => exact ⟨rfl, _, rfl, Lib.hid fun _ => HOK.out⟩
      case rest =>
        obtain ⟨hwc, d, rfl, HD⟩ := hcut
        subst hwc
        cases d
        case true =>
          go_wp2_with fail
          go_ret
          exact ⟨rfl, HM3.out.1⟩
        case false =>
        obtain ⟨g1, g2, g3, g4⟩ := HD.out rfl
        obtain ⟨a, rfl⟩ : ∃ a : Nat, za = (a : Int) := ⟨za.toNat, by omega⟩
        obtain ⟨b, rfl⟩ : ∃ b : Nat, zb = (b : Int) := ⟨zb.toNat, by omega⟩
        obtain ⟨l, hl⟩ : ∃ l, (body.take b).drop a = l := ⟨_, rfl⟩
        have z3 : (S body).extract a b = S l := by rw [S_extract, hl]
        have f1 : a ≤ b := by omega
        have f2 : b ≤ L := by omega
        have f3 : a ≤ 2000 := by have := HB.out.1; omega
        have e0 : IntKind.u32.wrap (a : Int) = (a : Int) := u32_wrap a (by omega)
        have HST : Hid (Stp body ps avs j ⟨a, l, v⟩) := Lib.hid ⟨a, b, HZ.out.1, by omega, by have := HN.out.2.2.2.2; omega, rfl, hl.symm, HZ.out.2, g4⟩
        clear g1 g2 g3 g4 hl f3 HD
        have HLT := Lib.hid hlt
        go_upto_region 11 with (fail)
        obtain ⟨s, hs1, hs2, hO⟩ := HM3.out.2.2.2
        have HS := Lib.hid (And.intro hs1 hs2)
        have HO : Hid (∀ W, Below wc.heap.size wc W → Own W 0 3 O j co (rowsOf stv s)) := Lib.hid fun W h => hO.keep h
        have HBD := Lib.hid HM3.out.1
        have HIO := Lib.hid HM3.out.2.2.1
        have HSZ : Hid ((j + 1) * 32 ≤ 140737488355328 ∧ j + 1 ≤ maxLen ∧ w.heap.size ≤ wc.heap.size) := Lib.hid (by have h1 := HB.out.2.1; have h2 := HBD.out.size; simp only [maxLen]; omega)
        clear hs1 hs2 hO HM3
        go_region_law (refine step_append rfl (.tmp 84) (.tmp 99) 24 24 rfl 0 29 _ 3 32 Tryd.underlying24 (.inl Tryd.underlying24) stepinfo rfl (by omega) (xs := rowsOf stv s) (ys := stv ⟨a, l, v⟩) (m := 1) rfl rfl (HO.out _ (by (repeat (first | assumption | exact Below.refl _ _ | refine Below.drew ?_ | refine Below.setCell ?_ (by first | omega | (simp; done) | (simp; omega)) _ | refine Below.alloc ?_ (by first | omega | (simp; done) | (simp; omega)) _)))) ⟨rfl, stv_one _, .inl ⟨_, _, rfl, rd_new _ 29 #[.int .u32 (a : Nat), .string (S l), .int .i64 v]⟩⟩ HSZ.out.1 HSZ.out.2.1 (Nat.zero_le _) ?_; intro O' co' w9 hO hg hor; have t9 : Tch (O.map (·.block)).toList wc w9 := ((((Tch.drew wc).trans (Tch.alloc _ _)).more (by simp))).trans (Tch.grown hg))
        all_goals
        have HT : Hid (Below w.heap.size w w9 ∧ Hi w.heap.size O') := Lib.hid ⟨((Tch.below HBD.out []).then t9 (fun k hk => .inr (HIO.out.inn k hk))).toBelow (Nat.le_refl _), HIO.out.new hor (by simp; have := HSZ.out.2.2; omega)⟩
        have HO9 : Hid (Own w9 0 3 O' (j + 1) co' (rowsOf stv (s ++ [⟨a, l, v⟩]))) := Lib.hid (by rw [rowsOf_append]; simpa [rowsOf] using hO)
        have HS9 : Hid (∀ k x, (s ++ [⟨a, l, v⟩])[k]? = some x → Stp body ps avs k x) := Lib.hid (fun k x hx => by
          by_cases hk : k < s.length
          · rw [List.getElem?_append_left hk] at hx
            exact HS.out.2 k x hx
          · have hl := (List.getElem?_eq_some_iff.1 hx).1
            simp at hl
            obtain rfl : k = s.length := by omega
            simp at hx
            rw [← hx, HS.out.1]
            exact HST.out)
        have jw : wrap64 ((j : Int) + 1) = (j : Int) + 1 := w64_inc HLT.out (by have := HB.out.2.1; omega)
        have k1 : j + 1 ≤ n := HLT.out
        clear hO hg hor t9
        go_wp2_with fail
        go_roundw
        case rel => exact ⟨j + 1, O', co', k1, by first | (rw [jw]; go_num) | go_num, rfl, Lib.hid ⟨HT.out.1, HT.out.2, s ++ [⟨a, l, v⟩], by simp [HS.out.1], HS9.out, HO9.out⟩⟩
        case measure => first | exact t_measD k1 | (rw [jw]; exact t_measD k1)
    · obtain rfl : n = j := by omega
      have t1 : ¬ n < n := Nat.lt_irrefl _
      obtain ⟨s, hs1, hs2, hO⟩ := HM.out.2.2
      have HS := Lib.hid (And.intro hs1 hs2)
      have HC := Lib.hid (ranges_both s O n co hs1 HB.out.2.1 (fun x hx => by
        obtain ⟨k, hk⟩ := List.mem_iff_getElem?.1 hx
        have h := (hs2 k x hk).len
        have := HN.out.2.2.2.2
        have := HB.out.1
        exact ⟨by omega, h.2.1⟩) ad wr hO.rd (keep_of_below HM.out.1 _ _ HEV.out))
      clear hs1 hs2 hO hlt
      go_wp2_with fail
      refine HC.out.mono ?_
      rintro e w6 ⟨O6, co6, T, rfl, hT, hch, hhi, hrd, hall, hb6⟩
      have HT := Lib.hid (And.intro hT (And.intro hch (And.intro hrd hall)))
      have HB6 := Lib.hid (below_two HM.out.1 hb6)
      clear hT hch hhi hrd hall hb6 HC HM
      go_wp2_with fail
      refine upon_make 32 4 (.bool false) 1 Tryd.underlying32 boolinfo rfl L L rfl rfl (Nat.le_refl _) (by have := HB.out; omega) (by have := HB.out; simp only [maxLen]; omega) ?_
      intro w7 hO7 hb7 hs7
      rw [bv_false] at hO7
      obtain ⟨g, hg⟩ : ∃ g, w6.heap.size = g := ⟨_, rfl⟩
      rw [hg] at hO7 ⊢
      have HG : Hid (w6.heap.size ≤ g) := Lib.hid (by omega)
      have H0 : Hid (Below w6.heap.size w6 w7 ∧ ∃ cm, Ms (CovBy (stR T 0)) L cm ∧ Own w7 0 1 (some ⟨g, 0, none⟩) L L (bv cm)) := Lib.hid ⟨hb7, _, Ms.none L _ covBy_nil, hO7.lower (Nat.zero_le _)⟩
      clear hO7 hb7 hs7 hg
      go_wp2_with fail
      go_loopw [114, 12, 13] (fun x y z wr => ∃ (j : Nat) (F Y : Nat), j ≤ n ∧ x = .int .i64 (j : Nat) ∧ y = .int .i64 (F : Nat) ∧ z = .int .i64 (Y : Nat) ∧ Hid (F = (stR T j).length ∧ Y = bytesOf (stR T j)) ∧ Hid (Below w6.heap.size w6 wr ∧ ∃ cm, Ms (CovBy (stR T j)) L cm ∧ Own wr 0 1 (some ⟨g, 0, none⟩) L L (bv cm))) (fun x _ _ _ => n - (intOf x).toNat)
      case atStart => exact ⟨0, 0, 0, Nat.zero_le _, rfl, rfl, rfl, Lib.hid ⟨rfl, by simp [stR, bytesOf]⟩, H0⟩
      case round =>
        obtain ⟨j, F, Y, hj, rfl, rfl, rfl, HF, HI⟩ := hrel
        by_cases hlt : j < n
        · obtain ⟨t, ht⟩ : ∃ t, T[j]? = some t := ⟨_, List.getElem?_eq_getElem (by rw [HT.out.1]; exact hlt)⟩
          obtain ⟨x, hx⟩ : ∃ x, s[j]? = some x := ⟨_, List.getElem?_eq_getElem (by rw [HS.out.1]; exact hlt)⟩
          have hst := step_at HT.out.2.1 (by rw [HT.out.1, HS.out.1]) HS.out.2 j x t hx ht
          have hka := kept_all HT.out.2.1 (by rw [HT.out.1, HS.out.1]) HS.out.2 j (by rw [HT.out.1]; exact hj)
          have hal := HT.out.2.2.2 t (List.mem_of_getElem? ht)
          obtain ⟨a, b, hz, hab, hbL, hxo, hxl, hxv, hx0⟩ := HS.out.2 j x hx
          have hxlen := (HS.out.2 j x hx).len
          have hne : rowsOf pcv ps ≠ [] := fun h => by
            have := congrArg List.length h
            rw [rowsOf_length pcv 2 pcv_length, HN.out.1] at this; simp at this; omega
          have hne2 : avs.map (Value.int .i64) ≠ [] := fun h => by
            have := congrArg List.length h
            rw [List.length_map, HN.out.2.2.1] at this; simp at this; have := HB.out.2.2; omega
          have hne3 : rowsOf tlv T ≠ [] := fun h => by
            have := congrArg List.length h
            rw [rowsOf_length tlv 6 tlv_length, HT.out.1] at this; simp at this; omega
          obtain ⟨b1, o1, rfl, _⟩ := HR.out.1.resolve_left hne
          obtain ⟨b2, o2, rfl, _⟩ := HR.out.2.resolve_left hne2
          obtain ⟨b3, o3, rfl, _⟩ := HT.out.2.2.1.resolve_left hne3
          obtain ⟨ok, fr, by_, cov', R', A1, c1, A2, c2'⟩ := t
          obtain ⟨xo, xl, av⟩ := x
          simp only at hxo hxl hxv hx0 hal hst hxlen
          subst hxo
          have HX : Hid (xo + xl.length = b) := Lib.hid (by rw [hxl, List.length_drop, List.length_take]; omega)
          have HXL : Hid (xo < b ∧ b ≤ L ∧ L ≤ 2000) := Lib.hid ⟨hab, by have := HN.out.2.2.2.2; omega, HB.out.1⟩
          have HST := Lib.hid (And.intro hst (And.intro hka (And.intro hal (And.intro ht (And.intro hz (And.intro hxv hx0))))))
          have HRD : Hid (∀ W, Below w6.heap.size w6 W → Rd W (some ⟨b1, o1, none⟩) (rowsOf pcv ps) ∧ Rd W (some ⟨b2, o2, none⟩) (avs.map (Value.int .i64)) ∧ Rd W (some ⟨b3, o3, none⟩) (rowsOf tlv T)) := Lib.hid (fun W hW => ⟨(HR.out.1.keep HB6.out).keep hW, (HR.out.2.keep HB6.out).keep hW, HT.out.2.2.1.keep hW⟩)
          clear hst hka hal ht hz hxv hx0 hne hne2 hne3 hab hbL hxl hx hxlen
          have hd := (HRD.out wr HI.out.1).2.2
          have d0 := rowsCell tlv_length hd j _ HST.out.2.2.2.1 0 (by omega) _ rfl
          have d1 := rowsCell tlv_length hd j _ HST.out.2.2.2.1 1 (by omega) _ rfl
          have d2 := rowsCell tlv_length hd j _ HST.out.2.2.2.1 2 (by omega) _ rfl
          have d3 := rowsCell tlv_length hd j _ HST.out.2.2.2.1 3 (by omega) _ rfl
          have d4 := rowsCell tlv_length hd j _ HST.out.2.2.2.1 4 (by omega) _ rfl
          have d5 := rowsCell tlv_length hd j _ HST.out.2.2.2.1 5 (by omega) _ rfl
          rw [Nat.add_zero] at d0
          have jn : (j : Int) < n := by omega
          have HLT2 := Lib.hid hlt
          obtain ⟨nr, hnr⟩ : ∃ nr, R'.length = nr := ⟨_, rfl⟩
          obtain ⟨yb, hyb⟩ : ∃ yb, bytesOf R' = yb := ⟨_, rfl⟩
          have HNR := Lib.hid (And.intro hnr hyb)
          simp only [hnr] at d4 d5
          clear hd hnr hyb
          go_upto_region 21 with (fail)
          have hb3 := below_alloc wr (.cells #[.bool ok, .int .i64 fr, .int .i64 by_, .int .u32 (cov' : Nat), .slice A1 nr c1, .slice A2 nr c2'] 36)
          have hk3 := Blk.new wr 36 #[.bool ok, .int .i64 fr, .int .i64 by_, .int .u32 (cov' : Nat), .slice A1 nr c1, .slice A2 nr c2']
          obtain ⟨q, hq⟩ : ∃ q, wr.heap.size = q := ⟨_, rfl⟩
          rw [hq] at hk3
          simp only [hq]
          obtain ⟨cm, hcm, hco⟩ := HI.out.2
          have HGQ : Hid (g < q) := Lib.hid (by have h := own_loS hco (by have := HXL.out; omega) (by omega) g rfl; omega)
          have HI8 := Lib.hid (And.intro (below_two HI.out.1 hb3) (And.intro hk3 (And.intro hcm (hco.keep hb3))))
          clear hb3 hk3 hcm hco d0 d1 d2 d3 d4 d5
          generalize wr.alloc (.cells #[.bool ok, .int .i64 fr, .int .i64 by_, .int .u32 (cov' : Nat), .slice A1 nr c1, .slice A2 nr c2'] 36) = w8 at *
          have p0 := rowsCell pcv_length (HRD.out w8 HI8.out.1).1 j _ HST.out.2.2.2.2.1 0 (by omega) _ rfl
          have p1 := rowsCell pcv_length (HRD.out w8 HI8.out.1).1 j _ HST.out.2.2.2.2.1 1 (by omega) _ rfl
          rw [Nat.add_zero] at p0
          clear hq HI
          go_upto_region 22 with (fail)
          have hb3 := below_alloc w8 (.cells #[.int .i64 (xo : Nat), .int .i64 (b : Nat)] 26)
          have hk3 := Blk.new w8 26 #[.int .i64 (xo : Nat), .int .i64 (b : Nat)]
          obtain ⟨q2, hq2⟩ : ∃ q, w8.heap.size = q := ⟨_, rfl⟩
          rw [hq2] at hk3
          simp only [hq2]
          have HGQ2 : Hid (q < q2) := Lib.hid (by have h := HI8.out.2.1.lt; omega)
          have HI9 := Lib.hid (And.intro (below_two HI8.out.1 hb3) (And.intro (HI8.out.2.1.keep hb3) (And.intro hk3 (HI8.out.2.2.2.keep hb3))))
          have HCM := Lib.hid HI8.out.2.2.1
          clear hb3 hk3 p0 p1 hq2 HI8
          generalize w8.alloc (.cells #[.int .i64 (xo : Nat), .int .i64 (b : Nat)] 26) = w9 at *
          have q0 : w9.cell? ⟨q, 0, none⟩ = some (.bool ok) := (HI9.out.2.1.cell 0).trans rfl
          go_upto_if 124 with (fail)
          go_cut [12, 13] (fun s12 s13 wx => s12 = .int .i64 (nr : Nat) ∧ s13 = .int .i64 (yb : Nat) ∧ Hid (Below w6.heap.size w6 wx ∧ Blk wx q 36 #[.bool ok, .int .i64 fr, .int .i64 by_, .int .u32 (cov' : Nat), .slice A1 nr c1, .slice A2 nr c2'] ∧ ∃ cm, Ms (CovBy R') L cm ∧ Own wx 0 1 (some ⟨g, 0, none⟩) L L (bv cm)))
          case first =>
            cases ok
            case false =>
              obtain ⟨e1, e2, e3, e4⟩ := HST.out.1.1.no rfl
              simp only at e1 e2 e3 e4
              have HR1 : Hid (Ms (CovBy R') L cm ∧ F = nr ∧ Y = yb) := Lib.hid ⟨by rw [e1]; exact HCM.out, by rw [← HNR.out.1, e1, HF.out.1], by rw [← HNR.out.2, e1, HF.out.2]⟩
              clear e1 e2 e3 e4
              go_wp2_with fail
              go_meet
              case rel => exact ⟨by rw [HR1.out.2.1], by rw [HR1.out.2.2], Lib.hid ⟨HI9.out.1, HI9.out.2.1, cm, HR1.out.1, HI9.out.2.2.2⟩⟩
            case true =>
              have r0 : w9.cell? ⟨q2, 0, none⟩ = some (.int .i64 (xo : Nat)) := (HI9.out.2.2.1.cell 0).trans rfl
              go_wp2_with fail
              go_loopw [17] (fun i wr => ∃ k : Nat, xo ≤ k ∧ k ≤ b ∧ i = .int .i64 (k : Nat) ∧ Hid (Below w6.heap.size w6 wr ∧ Blk wr q 36 #[.bool true, .int .i64 fr, .int .i64 by_, .int .u32 (cov' : Nat), .slice A1 nr c1, .slice A2 nr c2'] ∧ Blk wr q2 26 #[.int .i64 (xo : Nat), .int .i64 (b : Nat)] ∧ ∃ cm, Ms (fun p => CovBy (stR T j) p ∨ (xo ≤ p ∧ p < k)) L cm ∧ Own wr 0 1 (some ⟨g, 0, none⟩) L L (bv cm))) (fun i _ => b - (intOf i).toNat)
              case atStart => exact ⟨xo, Nat.le_refl _, by have := HXL.out; omega, rfl, Lib.hid ⟨HI9.out.1, HI9.out.2.1, HI9.out.2.2.1, cm, HCM.out.to (fun k _ => ⟨.inl, fun h => h.elim id (fun h => by omega)⟩), HI9.out.2.2.2⟩⟩
              case round =>
                obtain ⟨k, hxk, hkb, rfl, HJ⟩ := hrel
                have r1 : wr.cell? ⟨q2, 1, none⟩ = some (.int .i64 (b : Nat)) := (HJ.out.2.2.1.cell 1).trans rfl
                by_cases hlk : k < b
                · obtain ⟨cm1, hm1, ho1⟩ := HJ.out.2.2.2
                  have hkL : k < L := by have := HXL.out; omega
                  obtain ⟨y0, y1⟩ := own_bv ho1 k hkL
                  have k1 : (k : Int) < L := by omega
                  have k2 : (k : Int) < b := by omega
                  have jw : wrap64 ((k : Int) + 1) = (k : Int) + 1 := w64_inc hlk (by have := HXL.out; omega)
                  have HN2 : Hid (Below w6.heap.size w6 (wr.setCell ⟨g, k, none⟩ (.bool true)) ∧ Blk (wr.setCell ⟨g, k, none⟩ (.bool true)) q 36 #[.bool true, .int .i64 fr, .int .i64 by_, .int .u32 (cov' : Nat), .slice A1 nr c1, .slice A2 nr c2'] ∧ Blk (wr.setCell ⟨g, k, none⟩ (.bool true)) q2 26 #[.int .i64 (xo : Nat), .int .i64 (b : Nat)] ∧ ∃ cm, Ms (fun p => CovBy (stR T j) p ∨ (xo ≤ p ∧ p < k + 1)) L cm ∧ Own (wr.setCell ⟨g, k, none⟩ (.bool true)) 0 1 (some ⟨g, 0, none⟩) L L (bv cm)) := Lib.hid ⟨HJ.out.1.setCell HG.out _, HJ.out.2.1.tch (Tch.set wr g k _) (by have := HGQ.out; simp; omega), HJ.out.2.2.1.tch (Tch.set wr g k _) (by have := HGQ.out; have := HGQ2.out; simp; omega), _, (hm1.set k hkL).to (fun p _ => ms_to hxk), own_bv_set ho1 k true hkL⟩
                  clear hm1 ho1 hkL
                  go_wp2_with fail
                  go_roundw
                  case rel => exact ⟨k + 1, by omega, hlk, by first | (rw [jw]; go_num) | go_num, HN2⟩
                  case measure => first | exact t_measD hlk | (rw [jw]; exact t_measD hlk)
                · obtain rfl : k = b := by omega
                  have t1 : ¬ k < k := Nat.lt_irrefl _
                  clear hlk
                  have HMS : Hid (∃ cm, Ms (CovBy R') L cm ∧ Own wr 0 1 (some ⟨g, 0, none⟩) L L (bv cm)) := by
                    obtain ⟨cm1, hm1, ho1⟩ := HJ.out.2.2.2
                    have h := HST.out.1.1.yes rfl
                    simp only [HX.out] at h
                    exact Lib.hid ⟨cm1, hm1.to (fun p _ => (h p).symm), ho1⟩
                  have x1 : wr.cell? ⟨q, 1, none⟩ = some (.int .i64 fr) := (HJ.out.2.1.cell 1).trans rfl
                  have x2 : wr.cell? ⟨q, 2, none⟩ = some (.int .i64 by_) := (HJ.out.2.1.cell 2).trans rfl
                  have HSM : Hid ((F : Int) + fr = (nr : Int) ∧ (Y : Int) + by_ = (yb : Int)) := Lib.hid (by
                    have h1 := HST.out.1.1.num
                    have h2 := HST.out.1.1.sum
                    simp only at h1 h2
                    rw [HF.out.1, HF.out.2, ← HNR.out.1, ← HNR.out.2]
                    exact ⟨h1, h2⟩)
                  have HSB : Hid (nr ≤ 2000 ∧ yb ≤ 200000) := Lib.hid (few_sizes (R := R') HST.out.1.1.kept (by rw [HN.out.2.2.2.2]; exact HB.out.1) (by
                    have h1 := HST.out.1.1.few
                    have h2 := HST.out.2.1.2
                    have h3 := HB.out.2.1
                    have h4 := HLT2.out
                    simp only at h1
                    omega) HNR.out.1 HNR.out.2)
                  have W1 := Lib.hid (w64_all nr (by have := HSB.out; omega))
                  have W2 := Lib.hid (w64_all yb (by have := HSB.out; omega))
                  have W3 := Lib.hid (i64_nat nr (by have := HSB.out; omega))
                  have W4 := Lib.hid (i64_nat yb (by have := HSB.out; omega))
                  obtain ⟨e1, e2⟩ := HSM.out
                  clear hxk hkb
                  have w1 := W1.out
                  have w2 := W2.out
                  have w3 := W3.out
                  have w4 := W4.out
                  go_wp2_with fail
                  go_quiet (fail)
                  have HDR := Lib.hid (below_drewN (Below.refl wr.heap.size wr) nq)
                  clear x1 x2 r1 q0 r0
                  generalize wr.drewN nq = wE at *
                  go_wp2_with fail
                  go_meet
                  case rel => exact ⟨rfl, rfl, Lib.hid ⟨below_two HJ.out.1 HDR.out, HJ.out.2.1.keep HDR.out, HMS.out.imp fun _ h => ⟨h.1, h.2.keep HDR.out⟩⟩⟩
          case rest =>
            obtain ⟨rfl, rfl, HW⟩ := hcut
            obtain ⟨cm', hcm', hco'⟩ := HW.out.2.2
            have hall := HST.out.2.2.1
            have hbA := below_two HI9.out.1 (Below.refl _ _)
            have HSB : Hid (nr ≤ 60 ∧ yb ≤ 200000) := Lib.hid (by
              have h1 := HST.out.1.1.few
              have h2 := HST.out.2.1.2
              have h3 := HB.out.2.1
              have h6 := HLT2.out
              simp only at h1
              have h4 := few_sizes (R := R') HST.out.1.1.kept (by rw [HN.out.2.2.2.2]; exact HB.out.1) (by omega : R'.length ≤ 100) HNR.out.1 HNR.out.2
              have h5 := HNR.out.1
              omega)
            have HC1 := Lib.hid (ranged_any body R' cov' HST.out.1.1.kept (by rw [HN.out.2.2.2.2]; exact HB.out.1) (by rw [HNR.out.1]; exact HSB.out.1) cm' (by rw [HN.out.2.2.2.2]; exact hcm') (some ⟨g, 0, none⟩) L ⟨ok, fr, by_, cov', R', A1, c1, A2, c2'⟩ rfl rfl wc hco'.rd (hall.1.keep HW.out.1) (hall.2.keep HW.out.1))
            have HC2 := Lib.hid (fun W (hW : Below w6.heap.size w6 W) => total_any A2 nr c2' R' HNR.out.1 HSB.out.1 (fun r hr => (by
              have h1 := HST.out.1.1.kept.fin r hr
              have h2 := HB.out.1
              have h3 := HN.out.2.2.2.2
              unfold Rg.fin at h1
              omega)) W (hall.2.keep hW))
            simp only [HN.out.2.2.2.2, HNR.out.1] at HC1
            simp only [HNR.out.2] at HC2
            have x0 : wc.cell? ⟨q, 0, none⟩ = some (.bool ok) := (HW.out.2.1.cell 0).trans rfl
            have x1 : wc.cell? ⟨q, 1, none⟩ = some (.int .i64 fr) := (HW.out.2.1.cell 1).trans rfl
            have x2 : wc.cell? ⟨q, 2, none⟩ = some (.int .i64 by_) := (HW.out.2.1.cell 2).trans rfl
            have x3 : wc.cell? ⟨q, 3, none⟩ = some (.int .u32 (cov' : Nat)) := (HW.out.2.1.cell 3).trans rfl
            have x4 : wc.cell? ⟨q, 4, none⟩ = some (.slice A1 nr c1) := (HW.out.2.1.cell 4).trans rfl
            have x5 : wc.cell? ⟨q, 5, none⟩ = some (.slice A2 nr c2') := (HW.out.2.1.cell 5).trans rfl
            have HJN : Hid (CovBy R' = CovBy (stR T (j + 1)) ∧ nr = (stR T (j + 1)).length ∧ yb = bytesOf (stR T (j + 1))) := Lib.hid (by
              have h1 := HST.out.1.2.1
              try simp only at h1
              exact ⟨by rw [h1], by rw [h1]; exact HNR.out.1.symm, by rw [h1]; exact HNR.out.2.symm⟩)
            have v0 := i64_at (HRD.out wc HW.out.1).2.1 j av HST.out.2.2.2.2.2.1
            have jm : (j : Int) < m := by have := HB.out.2.2; have := HLT2.out; omega
            have HK1 : Hid (j + 1 ≤ n) := HLT2
            have HJW : Hid (wrap64 ((j : Int) + 1) = (j : Int) + 1) := Lib.hid (w64_inc HLT2.out (by have := HB.out.2.1; omega))
            have HNO : Hid (ok = false → fr = 0 ∧ by_ = 0 ∧ decide (0 < av) = false) := Lib.hid (fun h => by
              have h1 := HST.out.1.1.no h
              try simp only at h1
              exact ⟨h1.2.1, h1.2.2.1, by simp; exact h1.2.2.2⟩)
            have HMW := Lib.hid (And.intro HW.out.1 (And.intro hcm' hco'))
            clear hall hbA hcm' hco' q0
            cases ok
            case' false =>
              obtain ⟨n1, n2, n3⟩ := HNO.out rfl
              subst n1 n2
              go_wp2_with fail
            case' true =>
              go_wp2_with fail
            all_goals
              refine HC1.out.mono ?_
              rintro e w7 ⟨rfl, hb7⟩
              have HB7 := Lib.hid hb7
              have x5 := keep_of_below hb7 _ _ x5
              have HC := Lib.hid (HC2.out w7 (below_two HMW.out.1 hb7))
              clear hb7
              go_wp2_with fail
              refine HC.out.mono ?_
              rintro e w8 ⟨rfl, hb8⟩
              have HB8 := Lib.hid (below_two HB7.out hb8)
              clear hb8
              have jw := HJW.out
              go_wp2_with fail
              go_roundw
              case rel => exact ⟨j + 1, nr, yb, HK1.out, by first | (rw [jw]; go_num) | go_num, rfl, rfl, Lib.hid ⟨HJN.out.2.1, HJN.out.2.2⟩, Lib.hid ⟨below_two HMW.out.1 HB8.out, cm', by rw [← HJN.out.1]; exact HMW.out.2.1, HMW.out.2.2.keep HB8.out⟩⟩
              case measure => have hlt := HK1.out; first | exact t_measD hlt | (rw [jw]; exact t_measD hlt)
        · obtain rfl : j = n := by omega
          have t1 : ¬ j < j := Nat.lt_irrefl _
          clear hlt
          go_wp2_with fail
          go_ret
          exact ⟨rfl, below_two HB6.out HI.out.1⟩
end Go.Proofs.YtadblfnggmaadaaDoor
