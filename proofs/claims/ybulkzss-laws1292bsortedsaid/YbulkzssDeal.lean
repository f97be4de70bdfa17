/-
  sortWords' dealing: the loops taken out of the function's text; the state while a word is in hand.
-/
import Derived.Test.YbulkzssShort
import Derived.Deep.LoopGhost
import Derived.BigRegion
namespace Go.Proofs.Ybulkzss.W
open Go.RowKit Go.Sort Go.Proofs.Ybulkzss.Plain

/-- A fact laid aside so that no search looks behind its name. -/
structure Box (p : Prop) : Prop where
  out : p

/-! ### the loops of a function's text, taken out of it by a function -/
def loopsOf : Code → List Code
  | .loop c => [c]
  | .seq x y => loopsOf x ++ loopsOf y
  | .block _ c => loopsOf c
  | .cond _ x y => loopsOf x ++ loopsOf y
  | _ => []
def pick (o : Option Code) (i : Nat) : Code := ((o.map loopsOf).getD [])[i]?.getD .skip
def inner (c : Code) (i : Nat) : Code := (loopsOf c)[i]?.getD .skip

/-- The state at the inner loop's head: y in hand, the place f b of bucket b empty: E is the row with y laid there. -/
structure In8 (s a m b nb blk off : Nat) (D : Array Nat) (w wx : World) (E Dk : Array Nat) (f : Nat → Nat) (y : Nat) : Prop where
  part : Part s a m D E f
  open_ : f b < bel s (win D a m) (b + 1)
  hand : E = Dk.setIfInBounds (a + f b) y
  size : Dk.size = D.size
  row : Row w wx blk off Dk
  next : Arr wx nb f
  ends : Arr wx (nb + 1) (fun c => bel s (win D a m) (c + 1))
  done : ∀ c, c < b → f c = bel s (win D a m) (c + 1)

theorem hand_at {s a m b nb blk off : Nat} {D : Array Nat} {w wx : World} {E Dk : Array Nat} {f : Nat → Nat} {y : Nat} (h : In8 s a m b nb blk off D w wx E Dk f y) (hm : a + m ≤ D.size) (hb : b < 256) : E[a + f b]! = y := by
  have h1 := h.open_
  have h2 := bel_le s (win D a m) (show b + 1 ≤ 256 by omega)
  rw [win_length D a m hm] at h2
  rw [h.hand]
  exact getElem!_set_same Dk (a + f b) y (by rw [h.size]; omega)

/-- One step of the dealing. -/
theorem In8.step {s a m b nb blk off : Nat} {D : Array Nat} {w wx : World} {E Dk : Array Nat} {f : Nat → Nat} {y : Nat} (h : In8 s a m b nb blk off D w wx E Dk f y) (hm : a + m ≤ D.size) (hb : b < 256) (hne : b ≠ key s y) (hnb : w.heap.size ≤ nb) (hblk : blk < w.heap.size) (n : Nat) :
    In8 s a m b nb blk off D w (((wx.drewN n).setCell ⟨blk, off + a + f (key s y), none⟩ (.int .u64 (y : Int))).setCell ⟨nb, key s y, none⟩ (.int .i64 ((f (key s y) : Int) + 1)))
      (swp E (a + f b) (a + f (key s y))) (Dk.setIfInBounds (a + f (key s y)) y) (upd f (key s y) (f (key s y) + 1)) Dk[a + f (key s y)]! ∧
    left s a m D (upd f (key s y) (f (key s y) + 1)) < left s a m D f := by
  have hy := hand_at h hm hb
  have hc := key_lt s y
  have hkey : key s E[a + f b]! = key s y := by rw [hy]
  have hroom := h.part.room hm hb hc hne rfl h.open_ hkey
  have hbc := bel_le s (win D a m) (show key s y + 1 ≤ 256 by omega)
  have hbb := bel_le s (win D a m) (show b + 1 ≤ 256 by omega)
  rw [win_length D a m hm] at hbc hbb
  have hlob := h.part.lo b hb
  have hloc := h.part.lo (key s y) hc
  have hopen := h.open_
  have hpq : f b ≠ f (key s y) := fun e => hne (apart (s := s) (L := win D a m) (i := f b) hlob hopen (by omega) (by omega))
  have hEq : E[a + f (key s y)]! = Dk[a + f (key s y)]! := by
    rw [h.hand]; exact getElem!_set_other Dk _ _ y (by omega)
  refine ⟨⟨h.part.swap hm hb hc hne rfl h.open_ hkey, ?_, ?_, by simp [h.size], ?_, ?_, ?_, ?_⟩, left_step h.part hc hroom⟩
  · rw [upd_other _ _ _ _ hne]; exact h.open_
  · rw [upd_other _ _ _ _ hne]
    unfold swp
    rw [hy, hEq, h.hand]
    rw [Array.setIfInBounds_setIfInBounds]
    exact Array.setIfInBounds_comm _ _ (by omega)
  · rw [Nat.add_assoc]
    exact (((h.row.drewN n).set (by rw [h.size]; omega) y).other hnb _)
  · have e : ((f (key s y) : Int) + 1) = ((f (key s y) + 1 : Nat) : Int) := by omega
    rw [e]
    exact ((h.next.drewN n).other (by simp; omega) _).set _ _
  · exact ((h.ends.drewN n).other (by simp; omega) _).other (by simp) _
  · intro x hx
    by_cases e : x = key s y
    · rw [e] at hx
      have := h.done _ hx
      omega
    · rw [upd_other _ _ _ _ e]; exact h.done x hx

end Go.Proofs.Ybulkzss.W
