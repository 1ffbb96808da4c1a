/- Walks: a record's header, made. -/
import Derived.Test.YtmappdbodnlepaaDoorU48
import Derived.Test.YtmappdbodnlepaaDoorOps7
import Derived.StillTailTactics
namespace Go.Proofs.YtmappdbodnlepaaDoor
open Go.RowKit Go.Cv
set_option maxRecDepth 100000
set_option linter.unusedVariables false
def recRow (ct maj mn : UInt8) (ep sq cl : Nat) (cid : List UInt8) : Array Value := #[.int .u8 ct.toNat, .int .u8 maj.toNat, .int .u8 mn.toNat, .int .u16 (ep : Int), .int .u64 (sq : Int), .int .u16 (cl : Int), .string (S cid)]
def hdRow (ct maj mn : UInt8) (ep sq cl : Nat) (A : Option Addr) (n c : Nat) : Array Value := #[.int .u8 ct.toNat, .int .u16 (cl : Int), .int .u8 maj.toNat, .int .u8 mn.toNat, .int .u16 (ep : Int), .int .u64 (sq : Int), .slice A n c]
theorem hdInfo : (Tryd.prog.info? 66).map (·.size) = some 7 := by kernel_rfl
theorem recInfo : (Tryd.prog.info? 25).map (·.size) = some 7 := by kernel_rfl
theorem header_any (ct maj mn : UInt8) (ep sq cl : Nat) (cid : List UInt8) (hn : cid.length ≤ maxLen) (w : World) :
    Calls Tryd.prog 25 #[.agg (recRow ct maj mn ep sq cl cid)] w fun e w' => ∃ ra c, e = .returned (.agg (hdRow ct maj mn ep sq cl (some ⟨ra, 0, none⟩) cid.length c)) ∧ Rd w' (some ⟨ra, 0, none⟩) (vs cid) ∧ Below w.heap.size w w' := by
  unfold recRow
  go_enter Tryd.func25, Tryd.ntmps25
  go_wp2_with fail
  refine upon_conv_sb 9 39 5 Tryd.underlying9 Tryd.underlying39 Tryd.underlying5 cid hn ?_
  intro c w1 hown hb hlt
  have hk1 := (Blk.new (w.alloc (.cells (recRow ct maj mn ep sq cl cid) 25)) 66 _).keep hb
  have hrd := hown.rd
  have hlt1 := hb.size
  simp only [World.size_alloc] at hk1 hrd hlt1
  have HR := Lib.hid hrd
  have HZ : Hid (w.heap.size + 1 + 1 ≤ w1.heap.size) := hlt1
  have HB : Hid (Below w.heap.size w w1) := below_two (below_two (below_alloc _ _) (below_alloc _ _)) hb
  have HK := Lib.hid hk1
  clear hown hb hlt hk1 hrd hlt1
  go_wp2_with (with_reducible refine Held.store 66 ?_)
  refine held_store_row (cells := hdRow ct maj mn ep sq cl _ cid.length c) HK.out hdInfo rfl rfl rfl (by simp [hdRow, Value.oneCell']) fun w2 hk hg _ => ?_
  go_wp2_with fail
  refine bodyPost_cell rfl rfl rfl hk Tryd.underlying66 hdInfo ⟨_, _, rfl, ?_, ?_⟩
  · exact HR.out.tch (Tch.grown hg) (by simp)
  · exact HB.out.grown hg (by have := HZ.out; omega) (fun k hk' => by simp at hk'; omega)
/-- A header as it is written. -/
def hdOut (ct maj mn : UInt8) (ep sq cl : Nat) (cid : List UInt8) : List UInt8 := ct :: maj :: mn :: (be 2 ep ++ (be 6 sq ++ (cid ++ be 2 cl)))
theorem hdOut_length (ct maj mn : UInt8) (ep sq cl : Nat) (cid : List UInt8) : (hdOut ct maj mn ep sq cl cid).length = 13 + cid.length := by
  simp only [hdOut, List.length_cons, List.length_append, be_length]; omega
theorem vs_cons (x : UInt8) (l : List UInt8) : vs (x :: l) = Value.int .u8 x.toNat :: vs l := rfl
theorem hd_out (ct maj mn : UInt8) (ep sq cl : Nat) (cid : List UInt8) (n : Nat) (hn : cid.length = n) (x1 x2 : List Value) 
    (h1 : x1 = ((((((List.replicate (13 + n) (Value.int .u8 0)).set 0 (Value.int .u8 ct.toNat)).set 1 (Value.int .u8 maj.toNat)).set 2 (Value.int .u8 mn.toNat)).set 3 (Value.int .u8 ((ep : Int) / 256 % 256))).set (3 + 1) (Value.int .u8 ((ep : Int) % 256))))
    (h2 : x2 = x1.take 5 ++ (vs (be 6 sq) ++ x1.drop (5 + 6))) :
    ((x2.take 11 ++ (vs cid ++ x2.drop (11 + (vs cid).length))).set (11 + n) (Value.int .u8 ((cl : Int) / 256 % 256))).set (11 + n + 1) (Value.int .u8 ((cl : Int) % 256)) = vs (hdOut ct maj mn ep sq cl cid) := by
  have b2 : ∀ m : Nat, vs (be 2 m) = [Value.int .u8 ((m : Int) / 256 % 256), Value.int .u8 ((m : Int) % 256)] := by intro m; simp [be, vs]
  have hz : List.replicate (13 + n) (Value.int .u8 0) = (List.replicate 11 (Value.int .u8 0)) ++ (List.replicate n (Value.int .u8 0) ++ [Value.int .u8 0, Value.int .u8 0]) := by
    rw [show 13 + n = 11 + (n + 2) from by omega, ← List.replicate_append_replicate, ← List.replicate_append_replicate]
    rfl
  rw [hz] at h1
  have h1' : x1 = [Value.int .u8 ct.toNat, Value.int .u8 maj.toNat, Value.int .u8 mn.toNat, Value.int .u8 ((ep : Int) / 256 % 256), Value.int .u8 ((ep : Int) % 256), Value.int .u8 0, Value.int .u8 0, Value.int .u8 0, Value.int .u8 0, Value.int .u8 0, Value.int .u8 0] ++ (List.replicate n (Value.int .u8 0) ++ [Value.int .u8 0, Value.int .u8 0]) := h1
  have h6 : (vs (be 6 sq)).length = 6 := by rw [vs_length, be_length]
  have h2' : x2 = ([Value.int .u8 ct.toNat, Value.int .u8 maj.toNat, Value.int .u8 mn.toNat, Value.int .u8 ((ep : Int) / 256 % 256), Value.int .u8 ((ep : Int) % 256)] ++ vs (be 6 sq)) ++ (List.replicate n (Value.int .u8 0) ++ [Value.int .u8 0, Value.int .u8 0]) := by
    rw [h2, h1', List.append_assoc]; rfl
  have hl : ([Value.int .u8 ct.toNat, Value.int .u8 maj.toNat, Value.int .u8 mn.toNat, Value.int .u8 ((ep : Int) / 256 % 256), Value.int .u8 ((ep : Int) % 256)] ++ vs (be 6 sq)).length = 11 := by
    rw [List.length_append, h6]; rfl
  have t1 : x2.take 11 = [Value.int .u8 ct.toNat, Value.int .u8 maj.toNat, Value.int .u8 mn.toNat, Value.int .u8 ((ep : Int) / 256 % 256), Value.int .u8 ((ep : Int) % 256)] ++ vs (be 6 sq) := by
    rw [h2', ← hl, List.take_left]
  have t2 : x2.drop (11 + (vs cid).length) = [Value.int .u8 0, Value.int .u8 0] := by
    rw [h2', vs_length, hn, ← List.drop_drop, ← hl, List.drop_left]
    rw [List.drop_append_of_le_length (by simp)]
    simp
  rw [t1, t2]
  have hl2 : (([Value.int .u8 ct.toNat, Value.int .u8 maj.toNat, Value.int .u8 mn.toNat, Value.int .u8 ((ep : Int) / 256 % 256), Value.int .u8 ((ep : Int) % 256)] ++ vs (be 6 sq)) ++ vs cid).length = 11 + n := by
    rw [List.length_append, hl, vs_length, hn]
  rw [← List.append_assoc, List.set_append_right _ _ (by rw [hl2]; exact Nat.le_refl _), hl2, Nat.sub_self, List.set_append_right _ _ (by rw [hl2]; omega), hl2, Nat.add_sub_cancel_left, hdOut, vs_cons, vs_cons, vs_cons, vs_append, vs_append, vs_append, b2, b2]
  simp
end Go.Proofs.YtmappdbodnlepaaDoor
