/-
  The ledger's map, keyed by a pair of strings, its elements pointers: its datum holds each pointer as a token of itself. What a look-up gives, what a store makes. No walk here.
-/
import Derived.Test.YbulkzrqRows
import Derived.WalkKit
import Derived.DeepKeys4
import Derived.MapViews
import Derived.Maps.OwnSet
import Derived.LaidEqlPtr
namespace Go.Proofs.Ybulkzrq.Ledger
open Go.RowKit Go.Maps

theorem laidOut : laidOutB Yba.prog = true := by kernel_rfl
theorem row27 : (27 : TypeId) < Yba.prog.types.size := of_decide_eq_true (by kernel_rfl)
theorem cells27 : Yba.prog.cellsOf 27 = 2 := by kernel_rfl
theorem cells9 : Yba.prog.cellsOf 9 = 1 := by kernel_rfl
theorem deep27 : Yba.prog.keyTypeAt (Yba.prog.types.size + 1) 27 = true := by kernel_rfl
theorem wide27 : (match Yba.prog.underlying 27 with | some (.array _ _) | some (.struct _) => true | _ => false) = true := by kernel_rfl
theorem law : Keyed Yba.prog 27 := Keyed.of_law (deep_law_laid laidOut (m := 3) (by omega) row27 (by kernel_rfl) wide27)
theorem formed27 (a b : ByteArray) : (Value.agg #[.string a, .string b]).formed Yba.prog 27 = true := by
  simp [Value.formed, Yba.underlying27, cells27]
theorem zero24 (w : World) : (zeroValue 24).run Yba.prog w = .ok (.pointer none) w := by kernel_rfl

/-- The key as the map's reader reads it. -/
def kl (a b : ByteArray) : Lit := (DataW.agg [.lit (.string a.data.toList), .lit (.string b.data.toList)] : DataW Unit).asKey
theorem key_reads (a b : ByteArray) (ha : a.size ≤ maxLen) (hb : b.size ≤ maxLen) : keyOf Yba.prog 27 (.agg #[.string a, .string b]) = some (kl a b) := by
  have t : DataW.Trod (fun _ => ()) Yba.prog default 0 (fun _ => true) true 27 (.agg #[.string a, .string b]) (.agg [.lit (.string a.data.toList), .lit (.string b.data.toList)]) [] := by
    refine ⟨2, ?_⟩
    simp [DataW.trod, Value.cells, Yba.underlying27, cells27, cells9, ha, hb]
  exact (keyOf_asKey deep27 wide27 (formed27 a b) t).1
theorem kl_key (a b : ByteArray) (ha : a.size ≤ maxLen) (hb : b.size ≤ maxLen) : WideAt.IsKeyLit (kl a b) := law.key (key_reads a b ha hb)
theorem kl_inj {a b a' b' : ByteArray} (ha : a.size ≤ maxLen) (hb : b.size ≤ maxLen) (ha' : a'.size ≤ maxLen) (hb' : b'.size ≤ maxLen) (h : kl a b = kl a' b') : a = a' ∧ b = b' := by
  have e := law.inj (key_reads a b ha hb) (by rw [h]; exact key_reads a' b' ha' hb')
  simpa using e

/-- An element reads as a token of itself. -/
def tokE (v : Value) : Option (DataW Value × List MemPlace) := some (.held v, [])
/-- What the map holds at a key; a nil pointer where there is none. -/
def at? (D : DataW Value) (a b : ByteArray) : DataW Value := D.atKey (kl a b) (.held (.pointer none))

/-! two pointers to holdings, compared -/
theorem info33 : ∃ j, Yba.prog.info? 33 = some j ∧ j.size ≠ 0 := by
  have h : (Yba.prog.info? 33).map (fun i => i.size) = some 4 := by kernel_rfl
  cases e : Yba.prog.info? 33 with
  | none => rw [e] at h; cases h
  | some j => rw [e] at h; exact ⟨j, rfl, by injection h with h; have h' : j.size = 4 := h; omega⟩
theorem ptr_same (w : World) (p : Addr) : (binOp .eql 24 (.pointer (some p)) (.pointer (some p))).run Yba.prog w = .ok (.bool true) w := by
  obtain ⟨j, hj, _⟩ := info33
  exact run_eql_ptr_same w p Yba.underlying24 hj
theorem ptr_other (w : World) {p q : Addr} {c d : Array Value} {s t : TypeId} (hne : p ≠ q) (hp : w.heap[p.block]? = some (.cells c s (0, 0))) (hq : w.heap[q.block]? = some (.cells d t (0, 0))) :
    (binOp .eql 24 (.pointer (some p)) (.pointer (some q))).run Yba.prog w = .ok (.bool false) w := by
  obtain ⟨j, hj, hs⟩ := info33
  exact run_eql_ptr_other w Yba.underlying24 hj hs hne hp hq
theorem ptr_notsame (w : World) (p : Addr) : (binOp .neq 24 (.pointer (some p)) (.pointer (some p))).run Yba.prog w = .ok (.bool false) w := by
  obtain ⟨j, hj, _⟩ := info33
  have h : ∀ d : Nat, (Op.equalIn (d + 1) 24 (.pointer (some p)) (.pointer (some p))).run Yba.prog w = .ok true w := fun d => by
    simp [Op.equalIn, run_underlying Yba.underlying24, sizeOf, typeInfo, hj, run_sameAddr_same]
  simp only [binOp]
  simp [Op.equal, Op.maxDepth, h 9999]

variable {w : World} {mb n : Nat} {D : DataW Value}

theorem look (h : w.ownsMap Yba.prog 27 tokE mb n D) {a b : ByteArray} (ha : a.size ≤ maxLen) (hb : b.size ≤ maxLen) {v : Value} (hv : at? D a b = .held v) :
    (Instr.lookup 35 (.map (some mb)) (.agg #[.string a, .string b]) false).run Yba.prog w = .ok v w := by
  obtain ⟨u, ps, hrun, hu⟩ := h.lookup law Yba.underlying35 (zero24 w) (zd := .held (.pointer none)) (zp := []) rfl (key_reads a b ha hb)
  unfold at? at hv
  rw [hv] at hu
  simp [tokE] at hu
  rw [hrun, hu.1]

theorem store (h : w.ownsMap Yba.prog 27 tokE mb n D) (hn : n < maxLen) {a b : ByteArray} (ha : a.size ≤ maxLen) (hb : b.size ≤ maxLen) (v : Value) :
    ∃ w', (Instr.mapUpdate 35 (.map (some mb)) (.agg #[.string a, .string b]) v).run Yba.prog w = .ok () w' ∧ w'.ownsMap Yba.prog 27 tokE mb (n + 1) (D.put (kl a b) (.held v)) ∧ w.mapTurned w' mb :=
  h.store law Yba.underlying35 hn (key_reads a b ha hb) (d := .held v) (ps := []) rfl

theorem at_put_same (h : w.ownsMap Yba.prog 27 tokE mb n D) {a b : ByteArray} (ha : a.size ≤ maxLen) (hb : b.size ≤ maxLen) (v : Value) : at? (D.put (kl a b) (.held v)) a b = .held v :=
  atKey_put_same h.isMap (kl_key a b ha hb) _ _
theorem at_put_other {a b a' b' : ByteArray} (ha : a.size ≤ maxLen) (hb : b.size ≤ maxLen) (ha' : a'.size ≤ maxLen) (hb' : b'.size ≤ maxLen) (hne : ¬ (a' = a ∧ b' = b)) (v : Value) :
    at? (D.put (kl a b) (.held v)) a' b' = at? D a' b' :=
  atKey_put_other (fun e => hne (kl_inj ha' hb' ha hb e)) _ _
end Go.Proofs.Ybulkzrq.Ledger
