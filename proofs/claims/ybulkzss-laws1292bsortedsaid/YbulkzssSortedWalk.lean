/-
  The walk of LawS1292BSorted.
-/
import Derived.Test.YbulkzssTail
import Derived.OpenShut
namespace Go.Proofs.Ybulkzss.W
open Go.RowKit Go.Sort Go.Proofs.Ybulkzss.Plain
set_option linter.unusedVariables false

theorem own_holds {w : World} {base g n cap : Nat} {L : List Nat} (h : w.ownsRow base 23 1 (.slice (some ⟨g, 0, none⟩) n cap) n (L.map encW)) (hn : L.length = n) : Holds encW w g 0 L.toArray := by
  rcases h.2 with ⟨e, _⟩ | ⟨g', cap', cur, e, hb, hg, hnc, hm, hcs, htake⟩
  · cases e
  · injection e with e1 e2 e3
    injection e1 with e1
    injection e1 with e1
    subst e1
    intro j hj
    have hj' : j < L.length := by simpa using hj
    refine ⟨?_, by simp [World.frozen?, hg]⟩
    have hc := h.cells (g := g) rfl j (encW L[j]) (by rw [List.getElem?_map, List.getElem?_eq_getElem hj']; rfl)
    rw [show (⟨g, 0, none⟩ : Addr).add j = ⟨g, j, none⟩ by unfold Addr.add; split <;> simp_all] at hc
    rw [Nat.zero_add, hc, getElem!_pos _ j hj]
    simp
theorem own_lt {w : World} {base g n cap : Nat} {xs : List Value} (h : w.ownsRow base 23 1 (.slice (some ⟨g, 0, none⟩) n cap) n xs) : g < w.heap.size := (h.lt g rfl).2
theorem clone_zero (g cap : Nat) (w : World) (hg : g < w.heap.size) :
    Calls Yba.prog 6 #[.slice (some ⟨g, 0, none⟩) 0 cap] w fun e w' => ∃ ai ci, e = .returned (.slice ai 0 ci) ∧ w.grownBy w' none := by
  refine (clone g cap 0 w [] rfl (by omega) (fun j u hu => by simp at hu) hg).mono ?_
  rintro e w' ⟨v, he, hown, hgr⟩
  obtain ⟨a, c, hv, _⟩ := row_form hown
  exact ⟨a, c, by rw [he, hv], hgr⟩
theorem one_word (p : Int) : ∀ u ∈ [Value.int .u64 p], u.oneCell' = true := by simp [Value.oneCell']

set_option maxRecDepth 1000000 in
set_option maxHeartbeats 1000000 in
theorem sorted (a0 : Option Addr) (len0 cap0 : Nat) (w : World) (hl : ¬ 1024 < len0) (hc : ∀ i, i < len0 → ∃ (b off p : Nat), a0 = some ⟨b, off, none⟩ ∧ w.cell? ⟨b, off + i, none⟩ = some (.int .u64 (p : Int)) ∧ p < 2 ^ 64) :
    Calls Yba.prog 3 #[.slice a0 len0 cap0] w fun e w' => e = .returned (.bool true) ∧ RowKit.Below w.heap.size w w' := by
  obtain ⟨i0, hi, hz0, hz1, hz2⟩ := info_parts info23
  have HC := hide hc
  clear hc
  go_enter Yba.func3, Yba.ntmps3
  go_wp2_with (first | (at_make; refine wpList_make_own _ rfl _ _ 22 rfl w.heap.size 23 i0 (.int .u64 0) 1 Yba.underlying22 hi hz0 hz1 .i64 .i64 _ len0 rfl rfl ?hC ?hb2 ?hb3 (Nat.le_refl _) ?_; rotate_left 3; intro w0 hown hgrow))
  case hC => rfl
  case hb2 => rw [hz2]; omega
  case hb3 => unfold maxLen; omega
  have hB0 : RowKit.Below w.heap.size w w0 := (RowKit.Below.refl _ _).grown hgrow (Nat.le_refl _) (fun _ e => by cases e)
  have HOWN := hide hown
  have HB0 := hide hB0
  clear hown hgrow hB0
  go_loopw [3, 15] (fun v vi wr => ∃ (k n : Nat) (L : List Nat), k ≤ len0 ∧ vi = .int .i64 k ∧ v = .slice (some ⟨w.heap.size, 0, none⟩) n len0 ∧ L.length = n ∧ n ≤ k ∧ L.Nodup ∧ (∀ y ∈ L, y < 2 ^ 64) ∧
      wr.ownsRow w.heap.size 23 1 (.slice (some ⟨w.heap.size, 0, none⟩) n len0) n (L.map encW) ∧ RowKit.Below w.heap.size w wr) (fun _ vi _ => len0 - (RowKit.intOf vi).toNat)
  case atStart => exact ⟨0, 0, [], Nat.zero_le _, rfl, rfl, rfl, Nat.le_refl _, List.nodup_nil, by simp, unhide HOWN, unhide HB0⟩
  case round =>
    clear HOWN HB0
    obtain ⟨k, n, L, hk, rfl, rfl, hln, hnk, hnd, hu, hown, hB⟩ := hrel
    by_cases hlt : k < len0
    · obtain ⟨b, off, p, rfl, hck, hp⟩ := unhide HC k hlt
      have hb : b < w.heap.size := World.block_lt_of_cell? w ⟨b, off + k, none⟩ hck
      have hcell : wr.cell? ⟨b, off + k, none⟩ = some (.int .u64 (p : Int)) := (hB.cell (p := ⟨b, off + k, none⟩) hb).trans hck
      have hH := own_holds hown hln
      have hcells : ∀ t, t < n → wr.cell? ⟨w.heap.size, t, none⟩ = some (.int .u64 ((L.toArray[t]! : Nat) : Int)) := fun t ht => by
        have := (hH t (by simp; omega)).1
        rwa [Nat.zero_add] at this
      have hszw := hB.size
      have HLN := hide hln
      have HND := hide hnd
      have HU := hide hu
      have HOWN := hide hown
      have HB := hide hB
      have HP := hide hp
      clear hln hnd hu hown hB hp hck hH
      go_wp2_with fail
      refine (contains w.heap.size len0 n _ (fun t => ((L.toArray[t]! : Nat) : Int)) (p : Int) (by omega) hcells).mono ?_
      clear hcells hcell
      rintro e w' ⟨r, rfl, hr, rfl⟩
      have HR := hide hr
      clear hr
      cases r
      · go_wp2_with (first | (at_builtin; refine wpList_append_fits _ rfl _ _ 22 rfl w.heap.size 23 i0 1 Yba.underlying22 hi hz1 w.heap.size n len0 (L.map encW) rfl ((unhide HOWN).alloc _) ⟨wr.heap.size, 0, none⟩ 1 1 [.int .u64 (p : Int)] rfl rfl (cell_one_new _ _ _) (one_word _) (by omega) ?_; intro w1 hown1 hgrow1))
        go_roundw
        case rel =>
          have hpn : p ∉ L := by
            intro hm
            obtain ⟨t, ht, e⟩ := List.getElem_of_mem hm
            have hlen := unhide HLN
            have h2 : (false = true) := (unhide HR).2 ⟨t, by omega, by
              have hta : t < L.toArray.size := by simpa using ht
              rw [getElem!_pos _ t hta]; simp [e]⟩
            cases h2
          refine ⟨k + 1, n + 1, L ++ [p], by omega, by go_num, rfl, by simp [unhide HLN], by omega, ?_, ?_, ?_, ?_⟩
          · rw [List.nodup_append]
            exact ⟨unhide HND, by simp, fun x hx y hy => by simp at hy; subst hy; exact fun e => hpn (e ▸ hx)⟩
          · intro y hy
            rcases List.mem_append.1 hy with hy | hy
            · exact unhide HU y hy
            · simp at hy; subst hy; exact unhide HP
          · rw [List.map_append]; exact hown1
          · exact ((unhide HB).alloc hszw _).grown hgrow1 (by simp; omega) (fun j e => by cases e; exact Nat.le_refl _)
        case measure => simp [RowKit.intOf]; omega
      · go_wp2
        go_roundw
        case rel => exact ⟨k + 1, n, L, by omega, by go_num, rfl, unhide HLN, by omega, unhide HND, unhide HU, unhide HOWN, unhide HB⟩
        case measure => simp [RowKit.intOf]; omega
    · have hg : w.heap.size < wr.heap.size := own_lt hown
      have hH : Holds encW wr w.heap.size 0 L.toArray := own_holds hown hln
      have hsz : L.toArray.size = n := by simpa using hln
      have hu' : ∀ t, t < n → L.toArray[t]! < 2 ^ 64 := fun t ht => by
        have hta : t < L.toArray.size := by omega
        rw [getElem!_pos _ t hta]
        exact hu _ (by simp)
      have hnd' : L.toArray.toList.Nodup := by simpa using hnd
      generalize L.toArray = D at hH hsz hu' hnd'
      have HB := hide hB
      have HH := hide hH
      have HU := hide hu'
      have HND := hide hnd'
      have HSZ := hide hsz
      clear hB hH hu' hnd' hsz hown hnd hu hln
      by_cases hn0 : n = 0
      · subst hn0
        go_wp2_with fail
        refine (clone_zero w.heap.size len0 _ hg).mono ?_
        rintro e w1 ⟨ai, ci, rfl, hgr⟩
        have hsz2 := hgr.size
        have HGR := hide hgr
        clear hgr
        go_wp2_with fail
        refine (sort_call (D := D) len0 (unhide HSZ) (by omega) (by omega) (fun j hj => by rw [unhide HSZ] at hj; omega) (unhide HND) (unhide HU)).mono ?_
        rintro e w2 ⟨rfl, D', hp, hs, hr2⟩
        have hB2 : RowKit.Below w.heap.size w w2 := ((unhide HB).grown (unhide HGR) (by omega) (fun _ e => by cases e)).trans (hr2.below (Nat.le_refl _) (by omega))
        have HB2 := hide hB2
        clear hp hs hr2 hB2
        go_wp2_with fail
        refine (check0 ai (some ⟨w.heap.size, 0, none⟩) ci len0 _).mono ?_
        rintro e w3 ⟨rfl, q, rfl⟩
        go_wp2
        go_ret
        exact ⟨rfl, ⟨(unhide HB2).os, (unhide HB2).tape, (unhide HB2).output, (unhide HB2).size, (unhide HB2).block⟩⟩
      · have hpos : 0 < n := by omega
        go_wp2_with fail
        refine (clone_pos (D := D) len0 (unhide HSZ) hpos (by omega) (unhide HH)).mono ?_
        rintro e w1 ⟨gi, ci, rfl, hgi, hgi2, hin, hgr⟩
        have hH2 : Holds encW w1 w.heap.size 0 D := holds_grown (unhide HH) (by rw [unhide HSZ]; exact hpos) hgr
        have hsz2 := hgr.size
        have HIN := hide hin
        have HGR := hide hgr
        have HH2 := hide hH2
        clear hin hgr hH2
        go_wp2_with fail
        refine (sort_call (D := D) len0 (unhide HSZ) (by omega) (by omega) (unhide HH2) (unhide HND) (unhide HU)).mono ?_
        rintro e w2 ⟨rfl, D', hp, hs, hr2⟩
        have hrd := ready (unhide HSZ) (show w.heap.size ≠ gi by omega) hgi2 (unhide HH2) (unhide HND) (unhide HIN) hp hs hr2
        have hB2 : RowKit.Below w.heap.size w w2 := ((unhide HB).grown (unhide HGR) (by omega) (fun _ e => by cases e)).trans (hr2.below (Nat.le_refl _) (by omega))
        have HRD := hide hrd
        have HB2 := hide hB2
        clear hp hs hr2 hrd hB2
        go_wp2_with fail
        refine (check gi 0 ci w.heap.size 0 len0 n (fun t => ((D[t]! : Nat) : Int)) (fun t => ((D'[t]! : Nat) : Int)) _ (by omega) hpos (unhide HRD).1 (unhide HRD).2.1 (unhide HRD).2.2.1 (unhide HRD).2.2.2).mono ?_
        rintro e w3 ⟨rfl, q, rfl⟩
        go_wp2
        go_ret
        exact ⟨rfl, ⟨(unhide HB2).os, (unhide HB2).tape, (unhide HB2).output, (unhide HB2).size, (unhide HB2).block⟩⟩
end Go.Proofs.Ybulkzss.W
