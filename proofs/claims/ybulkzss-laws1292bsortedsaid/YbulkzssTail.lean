/-
  What both laws do at their end: a copy of the words, the sort, the check. The contracts of Clone and sortWords as the laws call them; what the check is handed.
-/
import Derived.Test.YbulkzssLib
namespace Go.Proofs.Ybulkzss.W
open Go.RowKit Go.Sort Go.Proofs.Ybulkzss.Plain

theorem win_all (D : Array Nat) : win D 0 D.size = D.toList := by
  unfold win; simp

section
variable {w w1 w2 : World} {g n : Nat} {D D' : Array Nat}

theorem clone_pos (cap : Nat) (hn : D.size = n) (hpos : 0 < n) (hbig : n ≤ 1048576) (hH : Holds encW w g 0 D) :
    Calls Yba.prog 6 #[.slice (some ⟨g, 0, none⟩) n cap] w fun e w' => ∃ gi ci, e = .returned (.slice (some ⟨gi, 0, none⟩) n ci) ∧ w.heap.size ≤ gi ∧ gi < w'.heap.size ∧ (∀ t, t < n → w'.cell? ⟨gi, 0 + t, none⟩ = some (.int .u64 ((D[t]! : Nat) : Int))) ∧ w.grownBy w' none := by
  have hg : g < w.heap.size := World.block_lt_of_cell? w _ (hH 0 (by omega)).1
  refine (clone g cap n w D.toList (by simpa using hn) hbig ?_ hg).mono ?_
  · intro j u hu
    have hj : j < D.size := by have := (List.getElem?_eq_some_iff.1 hu).1; simpa using this
    have hc := (hH j hj).1
    rw [Nat.zero_add] at hc
    rw [hc, ← hu, List.getElem?_map, Array.getElem?_toList, Array.getElem?_eq_getElem hj, getElem!_pos D j hj]; rfl
  · rintro e w' ⟨v, he, hown, hgr⟩
    obtain ⟨a, c, hv, _, hf⟩ := row_form hown
    obtain ⟨gi, ha, h1, h2, h3⟩ := hf hpos
    refine ⟨gi, c, by rw [he, hv, ha], h1, h2, fun t ht => ?_, hgr⟩
    rw [Nat.zero_add]
    refine h3 t _ ?_
    rw [List.getElem?_map, Array.getElem?_toList, Array.getElem?_eq_getElem (by omega), getElem!_pos D t (by omega)]; rfl

theorem sort_call (cap : Nat) (hn : D.size = n) (hcap : n ≤ cap) (hbig : n ≤ 1048576) (hH : Holds encW w g 0 D) (hnd : D.toList.Nodup) (hu : ∀ i, i < n → D[i]! < 2 ^ 64) :
    Calls Yba.prog 7 #[.slice (some ⟨g, 0, none⟩) n cap] w fun e w' => e = .returned (.tuple #[]) ∧ ∃ D', PermIn 0 n D D' ∧ SortedIn ltN 0 n D' ∧ Row w w' g 0 D' := by
  have h := sorts n g 0 cap 0 0 D w rfl hH (by omega) hcap hbig (by rw [← hn, win_all]; exact hnd) (fun i hi => by rw [Nat.zero_add]; exact hu i hi)
  rw [Nat.zero_add] at h
  exact h

theorem holds_grown (hH : Holds encW w g 0 D) (hpos : 0 < D.size) (hgr : w.grownBy w1 none) : Holds encW w1 g 0 D := by
  have hg : g < w.heap.size := World.block_lt_of_cell? w _ (hH 0 hpos).1
  have hb := hgr.block g hg (by simp)
  exact fun j hj => ⟨(World.cell?_of_block (w := w) (a := ⟨g, 0 + j, none⟩) hb).trans (hH j hj).1, (World.frozen?_of_block (w := w) (a := ⟨g, 0 + j, none⟩) hb).trans (hH j hj).2⟩

/-- What the check is handed. -/
theorem ready {gi : Nat} (hn : D.size = n) (hg : g ≠ gi) (hgi : gi < w1.heap.size) (hH : Holds encW w1 g 0 D) (hnd : D.toList.Nodup) (hin : ∀ t, t < n → w1.cell? ⟨gi, 0 + t, none⟩ = some (.int .u64 ((D[t]! : Nat) : Int)))
    (hp : PermIn 0 n D D') (hs : SortedIn ltN 0 n D') (hr : Row w1 w2 g 0 D') :
    (∀ t, t < n → w2.cell? ⟨gi, 0 + t, none⟩ = some (.int .u64 ((D[t]! : Nat) : Int))) ∧ (∀ t, t < n → w2.cell? ⟨g, 0 + t, none⟩ = some (.int .u64 ((D'[t]! : Nat) : Int))) ∧
    (∀ i, i + 1 < n → ((D'[i]! : Nat) : Int) < ((D'[i + 1]! : Nat) : Int)) ∧ ∀ i, i < n → ∃ j, j < n ∧ ((D'[j]! : Nat) : Int) = ((D[i]! : Nat) : Int) := by
  have hsz : D'.size = D.size := hp.1
  have hperm : D'.toList.Perm D.toList := by
    have h := hp.2.2
    have e1 : (D'.extract 0 n).toList = D'.toList := by rw [← hn, ← hsz]; simp
    have e2 : (D.extract 0 n).toList = D.toList := by rw [← hn]; simp
    rwa [e1, e2] at h
  have hnd' : D'.toList.Nodup := hperm.symm.nodup hnd
  refine ⟨fun t ht => ?_, fun t ht => hr.cell hH hsz (by omega), fun i hi => ?_, fun i hi => ?_⟩
  · have hb : w2.heap[gi]? = w1.heap[gi]? := by
      rw [hr.block gi hgi]
      unfold putRow
      simp only [mapBlock, Array.getElem?_modify]
      rw [if_neg hg]
    exact (World.cell?_of_block (w := w1) (a := ⟨gi, 0 + t, none⟩) hb).trans (hin t ht)
  · have h1 := hs i (i + 1) (Nat.zero_le _) (by omega) hi
    simp [ltN] at h1
    have hne : D'[i]! ≠ D'[i + 1]! := by
      intro e
      rw [getElem!_pos D' i (by omega), getElem!_pos D' (i + 1) (by omega)] at e
      have := (List.getElem_inj (h₀ := by simp; omega) (h₁ := by simp; omega) hnd').1 (show D'.toList[i]'(by simp; omega) = D'.toList[i + 1]'(by simp; omega) by simpa using e)
      omega
    omega
  · have hm : D[i]! ∈ D'.toList := by
      refine hperm.mem_iff.2 ?_
      rw [getElem!_pos D i (by omega)]
      exact Array.mem_toList_iff.2 (Array.getElem_mem _)
    obtain ⟨j, hj, e⟩ := List.getElem_of_mem hm
    have hj' : j < D'.size := by simpa using hj
    refine ⟨j, by omega, ?_⟩
    rw [← e, getElem!_pos D' j hj']; simp
end
end Go.Proofs.Ybulkzss.W
