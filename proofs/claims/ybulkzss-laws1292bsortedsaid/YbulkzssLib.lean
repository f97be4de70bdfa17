/-
  slices.Clone, slices.Index and slices.Contains at words, walked.
-/
import Derived.Test.YbulkzssCheck
import Derived.Maps.AppendAt
namespace Go.Proofs.Ybulkzss.W
open Go.RowKit Go.Sort Go.Proofs.Ybulkzss.Plain
theorem info23 : (Yba.prog.info? 23).map (fun i => (i.zero, i.size, i.bytes)) = some (some (.int .u64 0), 1, 8) := by kernel_rfl
theorem row_form {w : World} {base e : Nat} {v : Value} {n : Nat} {xs : List Value} (h : w.ownsRow base e 1 v n xs) :
    ∃ a c, v = .slice a n c ∧ n ≤ c ∧ (0 < n → ∃ g, a = some ⟨g, 0, none⟩ ∧ base ≤ g ∧ g < w.heap.size ∧ ∀ j u, xs[j]? = some u → w.cell? ⟨g, j, none⟩ = some u) := by
  have hc : ∀ g, v.ownBlock = some g → ∀ j u, xs[j]? = some u → w.cell? ((⟨g, 0, none⟩ : Addr).add j) = some u := fun g hg => h.cells hg
  rcases h.2 with ⟨rfl, rfl⟩ | ⟨g, cap, cur, rfl, hb, hg, hn, hm, _⟩
  · exact ⟨none, 0, rfl, Nat.le_refl _, fun h0 => absurd h0 (by omega)⟩
  · refine ⟨_, _, rfl, hn, fun _ => ⟨g, rfl, hb, (Array.getElem?_eq_some_iff.1 hg).1, fun j u hu => ?_⟩⟩
    have := hc g rfl j u hu
    rwa [show (⟨g, 0, none⟩ : Addr).add j = ⟨g, j, none⟩ by unfold Addr.add; split <;> simp_all] at this
theorem enc_one (L : List Nat) : ∀ u ∈ L.map encW, u.oneCell' = true := by
  intro u hu
  obtain ⟨_, _, rfl⟩ := List.mem_map.1 hu
  rfl
theorem clone (g cap n : Nat) (w : World) (L : List Nat) (hlen : L.length = n) (hn : n ≤ 1048576) (hc : ∀ j u, (L.map encW)[j]? = some u → w.cell? ⟨g, j, none⟩ = some u) (hgl : g < w.heap.size) :
    Calls Yba.prog 6 #[.slice (some ⟨g, 0, none⟩) n cap] w fun e w' => ∃ v, e = .returned v ∧ w'.ownsRow w.heap.size 23 1 v n (L.map encW) ∧ w.grownBy w' none := by
  have hnil := fun wx => Lib.run_eql_slice_nil (P := Yba.prog) wx 22 23 (some ⟨g, 0, none⟩) n cap 0 0 Yba.underlying22
  obtain ⟨i0, hi, hz0, hz1, hz2⟩ := info_parts info23
  have hown0 : (w.alloc (.cells #[] 23)).ownsRow w.heap.size 23 1 (.slice (some ⟨w.heap.size, 0, none⟩) 0 0) 0 [] := World.ownsRow_made w #[] 0 (Nat.le_refl _) (by decide) rfl
  have HC := hide hc
  clear hc
  go_enter Yba.func6, Yba.ntmps6
  go_wp2_with (first | (at_builtin; refine wpList_append_own_at _ rfl _ _ 22 rfl w.heap.size 23 i0 (.int .u64 0) 1 8 Yba.underlying22 hi hz0 hz1 hz2 rfl (by decide) _ 0 [] rfl hown0 ⟨g, 0, none⟩ n cap (L.map encW) rfl (by simpa using hlen) ?hcells (enc_one L) (by unfold maxLen; omega) (by omega) (by simp) ?_; rotate_left 1; intro v' w1 hown' hgrow hnil' hloc))
  · refine bodyPost_ret (v := v') (by simp [results, Yba.results6, go_sem]) rfl ⟨v', rfl, by simpa using hown', ?_⟩
    refine ⟨hgrow.os, hgrow.tape, hgrow.output, Nat.le_trans (by simp) hgrow.size, fun k hk _ => ?_⟩
    have hk2 : some k ≠ some w.heap.size := fun e => by injection e with e; omega
    rw [hgrow.block k (by simp; omega) hk2]
    exact RowKit.Below.heap_alloc w _ k hk
  · intro j u hu
    rw [show (⟨g, 0, none⟩ : Addr).add j = ⟨g, j, none⟩ by unfold Addr.add; split <;> simp_all]
    rw [World.cell?_alloc_old _ _ _ (by simp; omega)]
    exact unhide HC j u hu

set_option maxRecDepth 1000000 in
set_option maxHeartbeats 400000 in
/-- slices.Index at words. -/
theorem index (g cap n : Nat) (w : World) (x : Nat → Int) (y : Int) (hn : n ≤ 1048576) (hc : ∀ t, t < n → w.cell? ⟨g, t, none⟩ = some (.int .u64 (x t))) :
    Calls Yba.prog 10 #[.slice (some ⟨g, 0, none⟩) n cap, .int .u64 y] w fun e w' => ∃ r : Int, e = .returned (.int .i64 r) ∧ (0 ≤ r ↔ ∃ t, t < n ∧ x t = y) ∧ -1 ≤ r ∧ r < 1048577 ∧ w = w' := by
  go_enter Yba.func10, Yba.ntmps10
  go_wp2
  go_loop [8] (fun vi => ∃ k : Nat, k ≤ n ∧ vi = .int .i64 k ∧ ∀ t, t < k → x t ≠ y) (fun vi => n - (RowKit.intOf vi).toNat)
  case atStart => exact ⟨0, Nat.zero_le _, rfl, fun t ht => by omega⟩
  case round =>
    obtain ⟨k, hk, rfl, hno⟩ := hrel
    have HNO := hide hno
    clear hno
    by_cases hkn : k < n
    · have hck := hc k hkn
      by_cases hyx : y = x k
      · have h1 : (y == x k) = true := by simp [hyx]
        have HYX := hide hyx
        clear hyx
        go_wp2
        go_ret
        exact ⟨_, rfl, ⟨fun _ => ⟨k, hkn, (unhide HYX).symm⟩, fun _ => by omega⟩, by omega, by omega, rfl⟩
      · have h1 : (y == x k) = false := by simpa using hyx
        have HYX := hide hyx
        clear hyx
        go_wp2
        go_round
        case rel =>
          refine ⟨k + 1, by omega, by go_num, fun t ht => ?_⟩
          by_cases e : t = k
          · rw [e]; exact fun h => unhide HYX h.symm
          · exact unhide HNO t (by omega)
        case measure => simp [RowKit.intOf]; omega
    · go_wp2
      go_ret
      exact ⟨_, rfl, ⟨fun h => by omega, fun ⟨t, ht, he⟩ => absurd he (unhide HNO t (by omega))⟩, by omega, by omega, rfl⟩

set_option maxRecDepth 1000000 in
/-- slices.Contains at words. -/
theorem contains (g cap n : Nat) (w : World) (x : Nat → Int) (y : Int) (hn : n ≤ 1048576) (hc : ∀ t, t < n → w.cell? ⟨g, t, none⟩ = some (.int .u64 (x t))) :
    Calls Yba.prog 5 #[.slice (some ⟨g, 0, none⟩) n cap, .int .u64 y] w fun e w' => ∃ r : Bool, e = .returned (.bool r) ∧ (r = true ↔ ∃ t, t < n ∧ x t = y) ∧ w = w' := by
  go_enter Yba.func5, Yba.ntmps5
  go_wp2_with fail
  refine (index g cap n _ x y hn hc).mono ?_
  rintro e w' ⟨r, rfl, h1, h2, h3, rfl⟩
  have H1 := hide h1
  clear h1
  go_wp2
  go_ret
  exact ⟨_, rfl, by rw [← unhide H1]; simp, rfl⟩
end Go.Proofs.Ybulkzss.W
