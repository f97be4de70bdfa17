/-
  The proof of a given statement: the frame is the template's, written by program for this function; the walk is typed by hand.
-/
import Derived.Test.YbulkzrqRows
import Derived.WalkKit
import Derived.ProofKit
import Derived.OpenShut
import Derived.Test.YbulkzrqWalks
import Derived.ShutString
namespace Go.Proofs.Ybulkzrq.lawS1290BFresh
open Go.ChangeShapes Go.WideShapes Go.ChangeAt Go.RowKit
open Go.Maps
open Go.ChangeMaps (open_string shut_string)
set_option linter.unusedVariables false      -- a walk need not use every 'w<i>' (that an integer argument fits its kind)

theorem own : ownKnob Yba.prog.godebug = none := by kernel_rfl

theorem self (x : ByteArray) : (x.toList == x.toList) = true := by simp
theorem grown_of (w w' : World) (hk : Below w.heap.size w w') (hf : ∀ x, w'.frozen? x = w.frozen? x) : Grown w w' := ⟨hk.frame _, hf, hk.size⟩
theorem frozen_allocMap (w : World) (x : Addr) : (w.alloc (.map #[] 0)).frozen? x = w.frozen? x := by
  by_cases h : x.block < w.heap.size
  · exact World.frozen?_of_block (Below.heap_alloc w _ _ h)
  · have e : w.heap[x.block]? = none := Array.getElem?_eq_none (by omega)
    have e' : (w.alloc (.map #[] 0)).heap[x.block]? = none ∨ (w.alloc (.map #[] 0)).heap[x.block]? = some (.map #[] 0) := by
      by_cases h' : x.block = w.heap.size
      · exact Or.inr (by rw [h']; exact heap_alloc_new w _)
      · exact Or.inl (Array.getElem?_eq_none (by simp; omega))
    rcases e' with e' | e' <;> simp [World.frozen?, e, e']
theorem cell_of {w : World} {b : Nat} {c : Array Value} {t : TypeId} {fr : Nat × Nat} (h : w.heap[b]? = some (.cells c t fr)) (i : Nat) : w.cell? ⟨b, i, none⟩ = c[i]? := by
  simp [World.cell?, h]

/-! ### STEP 1: THE WALK: the Go text returns true. 'Grown w w'': the world has at most new blocks (Derived/RowKit3.lean). Part the cases AHEAD of 'go_enter' where a test parts the walk; take each callee by a contract of your own. -/
theorem walk (a0 : ByteArray) (a1 : ByteArray) (w0 : a0.size ≤ maxLen) (w1 : a1.size ≤ maxLen) (w : World) :
    Calls Yba.prog 3 #[.string a0, .string a1] w fun e w' => e = .returned (.bool true) ∧ Grown w w' := by
  have hs0 := self a0
  have hs1 := self a1
  go_enter Yba.func3, Yba.ntmps3
  go_wp2_with fail
  refine (Ledger.newLedger _).mono ?_
  rintro e w' ⟨rfl, rfl⟩
  go_wp2_with fail
  refine (Ledger.holding_miss _ _ w.heap.size 0 (.map []) a0 a1 w0 w1 (by decide) (by simp) ((World.ownsMap_made _ _ _ _).alloc _) rfl).mono ?_
  rintro e w' ⟨rfl, hown, hblk, hg, hfz⟩
  have hsz : ((w.alloc (.map #[] 0)).alloc (.cells #[.map (some w.heap.size), .nilFunc] 38)).heap.size = w.heap.size + 1 + 1 := by simp
  rw [hsz] at hown hblk
  have k0 := cell_of hblk 0
  have k1 := cell_of hblk 1
  have k2 := cell_of hblk 2
  have k3 := cell_of hblk 3
  have hlt : w.heap.size + 1 + 1 + 1 < w'.heap.size := (Array.getElem?_eq_some_iff.1 hblk).1
  have kl0 : w'.cell? ⟨w.heap.size + 1, 0, none⟩ = some (.map (some w.heap.size)) := hg.cell (by simp) (by simp)
  have kl2 : ∀ o1 o2, ((w'.alloc o1).alloc o2).cell? ⟨w.heap.size + 1, 0, none⟩ = some (.map (some w.heap.size)) := fun o1 o2 => by
    rw [World.cell?_alloc_old _ _ _ (by simp; omega), World.cell?_alloc_old _ _ _ (by simp; omega)]; exact kl0
  have heq := fun wx => Ledger.ptr_same wx ⟨w.heap.size + 1 + 1 + 1, 0, none⟩
  have hlen : ∀ o1 o2 ty, (Builtin.len_ #[35] ty #[.map (some w.heap.size)]).run Yba.prog ((w'.alloc o1).alloc o2) = .ok (.int .i64 1) ((w'.alloc o1).alloc o2) := fun o1 o2 ty => ((hown.alloc o1).alloc o2).len Yba.underlying35 ty
  have hlook : ∀ o1 o2, (Instr.lookup 35 (.map (some w.heap.size)) (.agg #[.string a0, .string a1]) false).run Yba.prog ((w'.alloc o1).alloc o2) = .ok (.pointer (some ⟨w.heap.size + 1 + 1 + 1, 0, none⟩)) ((w'.alloc o1).alloc o2) :=
    fun o1 o2 => Ledger.look ((hown.alloc o1).alloc o2) w0 w1 (atKey_put_same ⟨_, rfl⟩ (Ledger.kl_key a0 a1 w0 w1) _ _)
  have END : Hid (∀ c1 t1 c2 t2, Grown w ((w'.alloc (.cells c1 t1)).alloc (.cells c2 t2))) := fun c1 t1 c2 t2 => by
    refine Grown.alloc (Grown.alloc (grown_of w w' ?_ ?_) _ _) _ _
    · refine Below.grown (w := (w.alloc (.map #[] 0)).alloc (.cells #[.map (some w.heap.size), .nilFunc] 38)) (((Below.refl _ _).alloc (Nat.le_refl _) _).alloc (by simp) _) hg (by simp; omega) (fun k hk => by cases hk; exact Nat.le_refl _)
    · intro x
      rw [hfz x]
      exact ((Grown.alloc (Grown.refl (w.alloc (.map #[] 0))) _ _).2.1 x).trans (frozen_allocMap w x)
  clear hblk hg hfz hown hsz
  go_wp2
  go_ret
  exact ⟨rfl, END.out _ _ _ _⟩

/-! ### THE ROW's STEP: WRITTEN OUT: LEAVE IT -/
set_option maxRecDepth 100000 in
theorem lifted (os : Os) (started : os.Started) (H : Type) (enc : TypeId × Value → H) :
    ReturnsInHanded {} Yba.checked os 3 .any (Rows.lawS1290BFreshSpec.pre6 enc Yba.prog Yba.f3 Rows.lawS1290BFreshRow.domain false) (Rows.lawS1290BFreshSpec.post enc Yba.prog Yba.f3 false true false false) := by
  refine returnsInHanded_of_change (C := Yba.checked) own started (by kernel_rfl) Yba.func3
    (ChangeSpec.witness6 (enc := enc) (C := Yba.checked) false ⟨#[], #[.string ByteArray.empty, .string ByteArray.empty], []⟩ 8 (by kernel_rfl) (by kernel_rfl) (by kernel_rfl) (by kernel_rfl)) ?_
  intro W base args ds gs before hval0 hW hcnd _
  have hval : ∀ (j : Nat) t v, Yba.f3.params[j]? = some t → args[j]? = some v → Value.okWide Yba.prog W .any base t v := hval0
  have hW' := hW
  obtain ⟨p, q, hA0, hV, rfl, hfz, hnd⟩ := hW
  have hA : DataW.TrodAll enc Yba.prog W 0 (fun _ => true) true Yba.f3.params.toList args.toList ds p := hA0
  rw [Yba.params3] at hA hval
  obtain ⟨v0, vs0, d0, ds0, p0, q0, hargs, rfl, rfl, h0, r0⟩ := trodAll_cons hA
  obtain ⟨v1, vs1, d1, ds1, p1, q1, rfl, rfl, rfl, h1, r1⟩ := trodAll_cons r0
  obtain ⟨rfl, rfl, rfl⟩ := trodAll_nil r1
  obtain rfl : args = #[v0, v1] := by cases args; simp_all
  obtain ⟨rfl, rfl⟩ := trodVars_none hV
  obtain ⟨a0, rfl, rfl, rfl, w0⟩ := open_string Yba.underlying9 (hval 0 9 v0 rfl rfl) h0
  obtain ⟨a1, rfl, rfl, rfl, w1⟩ := open_string Yba.underlying9 (hval 1 9 v1 rfl rfl) h1
  clear hA0 hval0
  simp only [List.append_nil] at hW'
  refine (walk a0 a1 w0 w1 W).mono fun e W' ⟨he, hg⟩ => ?_
  subst he
  exact ⟨_, rfl, post_of_same (pa := []) (pv := []) hW' (fun _ _ _ => (trodAll_cons_mk (shut_bool Yba.underlying4 _) trodAll_mk0)) (fun sp _ => (trodAll_cons_mk (shut_string Yba.underlying9 w0) (trodAll_cons_mk (shut_string Yba.underlying9 w1) trodAll_mk0))) (fun _ _ => rfl) rfl
    (hg.frame _) hg.2.1 (ok_one (by kernel_rfl) rfl (okWide_bool_mk Yba.underlying4 _))⟩

theorem over : Rows.lawS1290BFreshRow.holds Yba.pinned (OpenSpec.ofChange Rows.lawS1290BFreshSpec) :=
  OpenClaim.holds_of_wide 3 Yba.f3 rfl rfl rfl rfl rfl rfl rfl ⟨rfl, rfl, rfl, rfl, rfl⟩ rfl rfl rfl rfl rfl (by kernel_rfl) Yba.func3 (by kernel_rfl)
    (of_decide_eq_true (by kernel_rfl)) (by unfold Func.isWrapper; first | (rw [if_pos (by decide +kernel)]; kernel_rfl) | (rw [if_neg (by decide +kernel)]; exact ⟨rfl, rfl⟩))
    (fun os started H enc _ => lifted os started H enc)

/-- ████ THE STATEMENT ████ -/
theorem proved : Rows.LawS1290BFreshSaid :=
  over
end Go.Proofs.Ybulkzrq.lawS1290BFresh
