/-
  The worlds of sortWords' walk: the row of words as the call turns it, and the three tables that the call makes. No walk here.
-/
import Derived.Test.YbulkzssPlain2
import Derived.Sort.WalkA
import Derived.WalkKit
namespace Go.Proofs.Ybulkzss.W
open Go.RowKit Go.Sort Go.Proofs.Ybulkzss.Plain

def encW (x : Nat) : Value := .int .u64 (x : Int)

/-- wr is w with the row holding E, and new blocks. -/
structure Row (w wr : World) (blk off : Nat) (E : Array Nat) : Prop where
  os : wr.os = w.os
  tape : wr.tape = w.tape
  output : wr.output = w.output
  size : w.heap.size ≤ wr.heap.size
  block : ∀ k, k < w.heap.size → wr.heap[k]? = (putRow encW w blk off E).heap[k]?

section
variable {w wr : World} {blk off : Nat} {D E : Array Nat}

theorem row_start (h : Holds encW w blk off D) : Row w w blk off D :=
  ⟨rfl, rfl, rfl, Nat.le_refl _, fun k _ => by rw [putRow_self encW w blk off D h]⟩
theorem Row.alloc (h : Row w wr blk off E) (o : Obj) : Row w (wr.alloc o) blk off E :=
  ⟨h.os, h.tape, h.output, by have := h.size; simp; omega, fun k hk => (RowKit.Below.heap_alloc wr o k (Nat.lt_of_lt_of_le hk h.size)).trans (h.block k hk)⟩
theorem Row.drew (h : Row w wr blk off E) : Row w wr.drew blk off E := ⟨h.os, h.tape, h.output, h.size, h.block⟩
theorem Row.drewN (h : Row w wr blk off E) (n : Nat) : Row w (wr.drewN n) blk off E := ⟨h.os, h.tape, h.output, h.size, h.block⟩
theorem Row.other (h : Row w wr blk off E) {p : Addr} (hp : w.heap.size ≤ p.block) (v : Value) : Row w (wr.setCell p v) blk off E :=
  ⟨h.os, h.tape, h.output, by have := h.size; simpa [World.setCell] using this, fun k hk => (RowKit.Below.heap_setCell wr p v k (by omega)).trans (h.block k hk)⟩
/-- Seen from below the row's own block nothing has turned. -/
theorem Row.below (h : Row w wr blk off E) {B : Nat} (hB : B ≤ blk) (hBw : B ≤ w.heap.size) : RowKit.Below B w wr := by
  refine ⟨h.os, h.tape, h.output, h.size, fun k hk => ?_⟩
  rw [h.block k (by omega)]
  unfold putRow
  simp only [mapBlock, Array.getElem?_modify]
  rw [if_neg (by omega)]

theorem blk_lt (hH : Holds encW w blk off D) {j : Nat} (hj : j < D.size) : blk < w.heap.size := World.block_lt_of_cell? w _ (hH j hj).1

theorem Row.cell (h : Row w wr blk off E) (hH : Holds encW w blk off D) (hs : E.size = D.size) {j : Nat} (hj : j < D.size) : wr.cell? ⟨blk, off + j, none⟩ = some (.int .u64 (E[j]! : Nat)) := by
  have hb := h.block blk (blk_lt hH hj)
  rw [World.cell?_of_block (w := putRow encW w blk off E) (a := ⟨blk, off + j, none⟩) hb]
  exact cell?_putRow encW w blk off D E hH hs j (by omega)
theorem Row.frozen (h : Row w wr blk off E) (hH : Holds encW w blk off D) {j : Nat} (hj : j < D.size) : wr.frozen? ⟨blk, off + j, none⟩ = false := by
  have hb := h.block blk (blk_lt hH hj)
  rw [World.frozen?_of_block (w := putRow encW w blk off E) (a := ⟨blk, off + j, none⟩) hb, frozen?_putRow]
  exact (hH j hj).2
theorem Row.holds (h : Row w wr blk off E) (hH : Holds encW w blk off D) (hs : E.size = D.size) : Holds encW wr blk off E := fun _ hj =>
  ⟨h.cell hH hs (by omega), h.frozen hH (by omega)⟩

theorem setCell_block {u v : World} {p : Addr} {x : Value} {k : Nat} (h : u.heap[k]? = v.heap[k]?) : (u.setCell p x).heap[k]? = (v.setCell p x).heap[k]? := by
  simp only [World.setCell, Array.getElem?_modify, h]

/-- One store into the row. -/
theorem Row.set (h : Row w wr blk off E) {j : Nat} (hj : j < E.size) (x : Nat) : Row w (wr.setCell ⟨blk, off + j, none⟩ (.int .u64 (x : Int))) blk off (E.setIfInBounds j x) := by
  refine ⟨h.os, h.tape, h.output, ?_, fun k hk => ?_⟩
  · have := h.size
    simpa [World.setCell] using this
  · rw [setCell_block (h.block k hk), ← putRow_set encW w blk off E j x hj]
    rfl

/-- A call that turned the row further. -/
theorem Row.call (h : Row w wr blk off E) {E' : Array Nat} {wr' : World} (hs : E'.size = E.size) (hc : Row wr wr' blk off E') : Row w wr' blk off E' := by
  refine ⟨hc.os.trans h.os, hc.tape.trans h.tape, hc.output.trans h.output, Nat.le_trans h.size hc.size, fun k hk => ?_⟩
  have hk' : k < wr.heap.size := Nat.lt_of_lt_of_le hk h.size
  rw [hc.block k hk', ← putRow_putRow encW w blk off E E' hs]
  have := h.block k hk
  unfold putRow at this ⊢
  simp only [mapBlock, Array.getElem?_modify] at this ⊢
  rw [this]
end

/-! ### a table of 256 numbers in a block of the call's own -/
def tab (f : Nat → Nat) : Array Value := Array.ofFn (n := 256) fun c => Value.int .i64 (f c : Int)
def Arr (w : World) (b : Nat) (f : Nat → Nat) : Prop := w.heap[b]? = some (.cells (tab f) 34)

theorem tab_at (f : Nat → Nat) (i : Nat) (h : i < 256) : (tab f)[i]? = some (.int .i64 (f i : Int)) := by
  unfold tab
  rw [Array.getElem?_eq_getElem (by simpa using h)]
  simp
theorem tab_upd (f : Nat → Nat) (c v : Nat) : (tab f).setIfInBounds c (.int .i64 (v : Int)) = tab (upd f c v) := by
  apply Array.ext_getElem?
  intro k
  rw [Array.getElem?_setIfInBounds]
  by_cases hk : k < 256
  · by_cases e : c = k
    · subst e
      rw [if_pos rfl, if_pos (by simpa [tab] using hk), tab_at _ _ hk, upd_same]
    · rw [if_neg e, tab_at _ _ hk, tab_at _ _ hk, upd_other _ _ _ _ (fun h => e h.symm)]
  · have e1 : ∀ g, (tab g)[k]? = none := fun g => Array.getElem?_eq_none (by simp [tab]; omega)
    rw [e1, e1]
    split <;> simp_all [tab]
theorem size_tab (f : Nat → Nat) : (tab f).size = 256 := by simp [tab]

section
variable {w : World} {b : Nat} {f : Nat → Nat}
theorem Arr.cell (h : Arr w b f) {i : Nat} (hi : i < 256) : w.cell? ⟨b, i, none⟩ = some (.int .i64 (f i : Int)) := by
  unfold Arr at h
  simp only [World.cell?, h]
  exact tab_at f i hi
theorem Arr.frozen (h : Arr w b f) (i : Nat) : w.frozen? ⟨b, i, none⟩ = false := by
  unfold Arr at h
  simp [World.frozen?, h]
theorem Arr.lt (h : Arr w b f) : b < w.heap.size := (Array.getElem?_eq_some_iff.1 h).1
theorem Arr.set (h : Arr w b f) (i v : Nat) : Arr (w.setCell ⟨b, i, none⟩ (.int .i64 (v : Int))) b (upd f i v) := by
  unfold Arr at h ⊢
  rw [← tab_upd]
  simp [World.setCell, Array.getElem?_modify, h]
theorem Arr.other (h : Arr w b f) {p : Addr} (hp : b ≠ p.block) (v : Value) : Arr (w.setCell p v) b f := by
  unfold Arr at h ⊢
  rw [RowKit.Below.heap_setCell _ _ _ _ hp]; exact h
theorem Arr.alloc (h : Arr w b f) (o : Obj) : Arr (w.alloc o) b f := by
  have hl := h.lt
  unfold Arr at h ⊢
  rw [RowKit.Below.heap_alloc _ _ _ hl]; exact h
theorem Arr.drew (h : Arr w b f) : Arr w.drew b f := h
theorem Arr.drewN (h : Arr w b f) (n : Nat) : Arr (w.drewN n) b f := h
theorem Arr.congr (h : Arr w b f) {g : Nat → Nat} (hg : ∀ c, c < 256 → g c = f c) : Arr w b g := by
  have e : tab g = tab f := by
    apply Array.ext_getElem?
    intro k
    by_cases hk : k < 256
    · rw [tab_at _ _ hk, tab_at _ _ hk, hg k hk]
    · rw [Array.getElem?_eq_none (by simp [tab]; omega), Array.getElem?_eq_none (by simp [tab]; omega)]
  unfold Arr at h ⊢
  rw [e]; exact h
/-- A call on the row leaves the tables. -/
theorem Arr.call {wr' : World} {blk off : Nat} {E' : Array Nat} (h : Arr w b f) (hb : b ≠ blk) (hc : Row w wr' blk off E') : Arr wr' b f := by
  have hl := h.lt
  unfold Arr at h ⊢
  rw [hc.block b hl]
  unfold putRow
  simp only [mapBlock, Array.getElem?_modify]
  rw [if_neg (fun e => hb e.symm)]; exact h
end
end Go.Proofs.Ybulkzss.W
