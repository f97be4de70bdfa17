/-
  sortWords, fewer than 48 words: the walk of its insertion.
-/
import Derived.Test.YbulkzssRows
import Derived.Test.YbulkzssWorld
import Derived.Test.YbulkzssShelf
import Derived.BigGuard
import Derived.BigCall
import Derived.CellFam
import Derived.Deep.Draws
import Derived.Deep.QuietTactic
import Derived.BigQuiet
import Derived.BigRegion
import Derived.Deep.Light
namespace Go.Proofs.Ybulkzss.W
open Go.RowKit Go.Sort Go.Proofs.Ybulkzss.Plain
theorem hide {p : Prop} (h : p) : Hid p := h
theorem unhide {p : Prop} (h : Hid p) : p := h
/-- 'ws[j], ws[k] = ws[k], ws[j]'. -/
theorem Row.swap {w wr : World} {blk off a j k : Nat} {E : Array Nat} (h : Row w wr blk off E) (hj : a + j < E.size) (hk : a + k < E.size) :
    Row w ((wr.setCell ⟨blk, off + a + j, none⟩ (.int .u64 ((E[a + k]! : Nat) : Int))).setCell ⟨blk, off + a + k, none⟩ (.int .u64 ((E[a + j]! : Nat) : Int))) blk off (swp E (a + j) (a + k)) := by
  rw [Nat.add_assoc, Nat.add_assoc]
  exact (h.set hj E[a + k]!).set (by simpa using hk) E[a + j]!

set_option maxRecDepth 1000000 in
set_option maxHeartbeats 1000000 in
/-- Fewer than 48 words: by insertion. -/
theorem short (blk off cap a m : Nat) (D : Array Nat) (w : World) (hH : Holds encW w blk off D) (hm : a + m ≤ D.size) (h48 : m < 48) :
    Calls Yba.prog 7 #[.slice (some ⟨blk, off + a, none⟩) m cap] w fun e w' =>
      e = .returned (.tuple #[]) ∧ Row w w' blk off (insertionSort ltN D a (a + m)) := by
  go_enter Yba.func7, Yba.ntmps7
  go_wp2
  go_loopw [2] (fun vi wr => ∃ (i : Nat) (dk : Array Nat), vi = .int .i64 i ∧ 1 ≤ i ∧ i ≤ m + 1 ∧ dk.size = D.size ∧ Row w wr blk off dk ∧
      insOuter ltN a (a + m) (a + i) dk = insOuter ltN a (a + m) (a + 1) D) (fun vi _ => m + 1 - (RowKit.intOf vi).toNat)
  case atStart => exact ⟨1, D, by go_num, by omega, by omega, rfl, row_start hH, rfl⟩
  case round =>
    obtain ⟨i, dk, rfl, hi1, him, hsk, hwr, hO⟩ := hrel
    have HO := hide hO
    have HR := hide hwr
    clear hO hwr
    by_cases hib : i < m
    · go_wp2
      go_loopw [3] (fun vj wr2 => ∃ (j : Nat) (dj : Array Nat), vj = .int .i64 j ∧ j ≤ i ∧ dj.size = D.size ∧ Row w wr2 blk off dj ∧
          insInner ltN a (a + j) dj = insInner ltN a (a + i) dk) (fun vj _ => (RowKit.intOf vj).toNat)
      case atStart => exact ⟨i, dk, rfl, Nat.le_refl _, hsk, unhide HR, rfl⟩
      case round =>
        clear HR
        obtain ⟨j, dj, rfl, hji, hsj, hw2, hI⟩ := hrel
        obtain ⟨G, hG⟩ : ∃ G : Nat → Int, ∀ t, G t = (dj[a + t]! : Nat) := ⟨fun t => (dj[a + t]! : Nat), fun _ => rfl⟩
        have hcw : ∀ t, t < m → wr.cell? ⟨blk, off + a + t, none⟩ = some (.int .u64 (G t)) := fun t ht => by
          rw [hG, Nat.add_assoc]; exact hw2.cell hH hsj (by omega)
        have hfw : ∀ t, t < m → wr.frozen? ⟨blk, off + a + t, none⟩ = false := fun t ht => by
          rw [Nat.add_assoc]; exact hw2.frozen hH (by omega)
        have HW := hide hw2
        have HG := hide hG
        have HI := hide hI
        have HH := hide hH
        clear hw2 hG hI hH
        have out : (j ≤ 0 ∨ ltN dj[a + j]! dj[a + j - 1]! = false) → ∀ q, ∃ (i' : Nat) (dk' : Array Nat), Value.int .i64 ((i : Int) + 1) = .int .i64 (i' : Nat) ∧ 1 ≤ i' ∧ i' ≤ m + 1 ∧ dk'.size = D.size ∧
            Row w (wr.drewN q) blk off dk' ∧ insOuter ltN a (a + m) (a + i') dk' = insOuter ltN a (a + m) (a + 1) D := fun hs q =>
          ⟨i + 1, dj, by go_num, by omega, by omega, hsj, (unhide HW).drewN q,
            by rw [← unhide HO, insOuter_go _ _ _ _ _ (show a + i < a + m by omega), ← unhide HI, insInner_stop _ _ _ _ (hs.elim (fun h => Or.inl (by omega)) Or.inr)]; rfl⟩
        have OUT := hide out
        clear out
        go_wp2
        by_cases hja : 0 < j
        · go_quiet (fail)
          go_wp2
          · have hl : G j < G (j - 1) := by assumption
            go_region
            all_goals go_wp2
            go_roundw
            case rel =>
              go_light
              refine ⟨j - 1, swp dj (a + j) (a + (j - 1)), by congr 1; omega, by omega, by rw [size_swp]; exact hsj, ?_, ?_⟩
              · rw [unhide HG, unhide HG]
                exact ((unhide HW).drewN (nq + 1)).swap (by omega) (by omega)
              · have h1 := insInner_go ltN a (a + j) dj (by omega) (by rw [show a + j - 1 = a + (j - 1) by omega]; have e1 := unhide HG j; have e2 := unhide HG (j - 1); simp [ltN]; omega)
                rw [← unhide HI, h1, show a + j - 1 = a + (j - 1) by omega]
            case measure => simp [RowKit.intOf]; omega
          · have hl : ¬ G j < G (j - 1) := by first | assumption | omega
            go_roundw
            case rel => exact unhide OUT (Or.inr (by rw [show a + j - 1 = a + (j - 1) by omega]; have e1 := unhide HG j; have e2 := unhide HG (j - 1); simp [ltN]; omega)) nq
            case measure => simp [RowKit.intOf]; omega
        · have hd : decide (0 < (j : Int)) = false := by simp; omega
          go_quiet (fail)
          go_wp2
          go_roundw
          case rel => exact unhide OUT (Or.inl (by omega)) nq
          case measure => simp [RowKit.intOf]; omega
    · go_wp2
      refine bodyPost_ret (results_none Yba.results7 _ _ _) rfl ⟨rfl, ?_⟩
      have e : insertionSort ltN D a (a + m) = dk := by
        unfold insertionSort
        rw [← unhide HO, insOuter_stop _ _ _ _ _ (by omega)]
      rw [e]
      exact unhide HR
end Go.Proofs.Ybulkzss.W
