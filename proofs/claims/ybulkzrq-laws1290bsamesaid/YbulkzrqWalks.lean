/-
  The walks of newLedger and of the ledger's method holding: a key that is there, a key that is not.
-/
import Derived.Test.YbulkzrqLedger
import Derived.WalkSpells
import Derived.WalkLawsBesides
import Derived.Deep.Light
import Derived.Deep.QuietTactic
import Derived.BigQuiet
import Derived.Laws.EntriesVeiled
namespace Go.Proofs.Ybulkzrq.Ledger
open Go.RowKit Go.Maps

theorem newLedger (w : World) :
    Calls Yba.prog 5 #[.nilFunc] w fun e w' => e = .returned (.pointer (some ⟨w.heap.size + 1, 0, none⟩)) ∧ w' = (w.alloc (.map #[] 0)).alloc (.cells #[.map (some w.heap.size), .nilFunc] 38) := by
  have hmm := @run_makeMap Yba.prog
  go_enter Yba.func5, Yba.ntmps5
  go_wp2
  go_ret
  exact ⟨rfl, rfl⟩

theorem holding_hit (w : World) (lb mb n : Nat) (D : DataW Value) (a b : ByteArray) (ha : a.size ≤ maxLen) (hb : b.size ≤ maxLen) (p : Addr)
    (hl : w.cell? ⟨lb, 0, none⟩ = some (.map (some mb))) (hown : w.ownsMap Yba.prog 27 tokE mb n D) (hat : at? D a b = .held (.pointer (some p))) :
    Calls Yba.prog 6 #[.pointer (some ⟨lb, 0, none⟩), .string a, .string b] w fun e w' => e = .returned (.pointer (some p)) ∧ ∃ m, w' = (w.alloc (.cells #[.string a, .string b] 27)).drewN m := by
  have hrun : ∀ m, (Instr.lookup 35 (.map (some mb)) (.agg #[.string a, .string b]) false).run Yba.prog ((w.alloc (.cells #[.string a, .string b] 27)).drewN m) = .ok (.pointer (some p)) ((w.alloc (.cells #[.string a, .string b] 27)).drewN m) :=
    fun m => look (w := (w.alloc (.cells #[.string a, .string b] 27)).drewN m) (hown.alloc _) ha hb hat
  have hlt : lb < w.heap.size := World.block_lt_of_cell? w ⟨lb, 0, none⟩ hl
  have hl1 : (w.alloc (.cells #[.string a, .string b] 27)).cell? ⟨lb, 0, none⟩ = some (.map (some mb)) := by rw [World.cell?_alloc_old _ _ _ (by simp; omega)]; exact hl
  go_enter Yba.func6, Yba.ntmps6
  go_wp2
  go_quiet (fail)
  go_wp2
  go_ret
  exact ⟨rfl, _, rfl⟩

theorem new_at (W : World) (o : Obj) (k : Nat) (hk : W.heap.size = k) : (W.alloc o).drew.heap[k]? = some o := by subst hk; exact heap_alloc_new W o

theorem fz (w : World) (m : Nat) (c d : Array Value) (s t : TypeId) (x : Addr) : (((w.alloc (.cells c s)).drewN m).alloc (.cells d t)).drew.frozen? x = w.frozen? x :=
  ((Grown.alloc (Grown.refl ((w.alloc (.cells c s)).drewN m)) d t).2.1 x).trans ((Grown.alloc (Grown.refl w) c s).2.1 x)

theorem holding_miss (w : World) (lb mb n : Nat) (D : DataW Value) (a b : ByteArray) (ha : a.size ≤ maxLen) (hb : b.size ≤ maxLen) (hn : n < maxLen)
    (hl : w.cell? ⟨lb, 0, none⟩ = some (.map (some mb))) (hown : w.ownsMap Yba.prog 27 tokE mb n D) (hat : at? D a b = .held (.pointer none)) :
    Calls Yba.prog 6 #[.pointer (some ⟨lb, 0, none⟩), .string a, .string b] w fun e w' => e = .returned (.pointer (some ⟨w.heap.size + 1, 0, none⟩)) ∧
      w'.ownsMap Yba.prog 27 tokE mb (n + 1) (D.put (kl a b) (.held (.pointer (some ⟨w.heap.size + 1, 0, none⟩)))) ∧
      w'.heap[w.heap.size + 1]? = some (.cells #[.string a, .string b, .int .i64 0, .string ⟨#[]⟩] 33) ∧ w.grownBy w' (some mb) ∧ ∀ x, w'.frozen? x = w.frozen? x := by
  have hrun : ∀ m, (Instr.lookup 35 (.map (some mb)) (.agg #[.string a, .string b]) false).run Yba.prog ((w.alloc (.cells #[.string a, .string b] 27)).drewN m) = .ok (.pointer none) ((w.alloc (.cells #[.string a, .string b] 27)).drewN m) :=
    fun m => look (w := (w.alloc (.cells #[.string a, .string b] 27)).drewN m) (hown.alloc _) ha hb hat
  have hlt : lb < w.heap.size := World.block_lt_of_cell? w ⟨lb, 0, none⟩ hl
  have hl1 : (w.alloc (.cells #[.string a, .string b] 27)).cell? ⟨lb, 0, none⟩ = some (.map (some mb)) := by rw [World.cell?_alloc_old _ _ _ (by simp; omega)]; exact hl
  go_enter Yba.func6, Yba.ntmps6
  go_wp2
  go_quiet (fail)
  go_wp2
  have hs2 : (((w.alloc (.cells #[.string a, .string b] 27)).drewN nq).alloc (.cells #[.string a, .string b, .int .i64 0, .string ⟨#[]⟩] 33)).drew.ownsMap Yba.prog 27 tokE mb n D := (World.ownsMap.alloc (w := (w.alloc (.cells #[.string a, .string b] 27)).drewN nq) (hown.alloc _) _)
  obtain ⟨w1, hrun1, hown1, hturn1⟩ := store hs2 hn ha hb (.pointer (some ⟨w.heap.size + 1, 0, none⟩))
  have hg1 := hturn1.grown
  have hf1 : Hid (∀ x, w1.frozen? x = w.frozen? x) := fun x => (hturn1.frozen x).trans (fz w nq _ _ _ _ x)
  have hs : ((w.alloc (.cells #[.string a, .string b] 27)).drewN nq).heap.size = w.heap.size + 1 := by simp
  have hmb := hown.lt
  clear hturn1 hs2 hrun
  go_region
  all_goals go_wp2
  all_goals go_ret
  all_goals refine ⟨rfl, hown1, ?_, ?_, hf1.out⟩
  · rw [hg1.block _ (by simp) (by simp; omega)]
    exact new_at _ _ _ hs
  · refine ⟨hg1.os, hg1.tape, hg1.output, Nat.le_trans (by simp; omega) hg1.size, fun k hk hne => ?_⟩
    rw [hg1.block k (by simp; omega) hne]
    exact (Below.heap_alloc ((w.alloc (.cells #[.string a, .string b] 27)).drewN nq) _ k (by simp; omega)).trans (Below.heap_alloc w _ k hk)
end Go.Proofs.Ybulkzrq.Ledger
