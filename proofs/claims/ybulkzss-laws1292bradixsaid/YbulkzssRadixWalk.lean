/-
  The walk of LawS1292BRadix.
-/
import Derived.Test.YbulkzssRot
import Derived.Test.YbulkzssTail
import Derived.OpenShut
namespace Go.Proofs.Ybulkzss.W
open Go.RowKit Go.Sort Go.Proofs.Ybulkzss.Plain
set_option linter.unusedVariables false
theorem made_holds {w : World} {base g N : Nat} (h : w.ownsRow base 23 1 (.slice (some ⟨g, 0, none⟩) N N) N (madeCells (Value.int .u64 0).cells (N * 1)).toList) : Holds encW w g 0 (Array.replicate N 0) := by
  rcases h.2 with ⟨e, _⟩ | ⟨g', cap, cur, e, hb, hg, hn, hm, hcs, htake⟩
  · cases e
  · injection e with e1 e2 e3
    injection e1 with e1
    injection e1 with e1
    subst e1
    intro j hj
    have hjN : j < N := by simpa using hj
    refine ⟨?_, by simp [World.frozen?, hg]⟩
    have hc := h.cells (g := g) rfl j (.int .u64 0) (by simp [madeCells, Value.cells, hjN, Nat.mod_one])
    rw [show (⟨g, 0, none⟩ : Addr).add j = ⟨g, j, none⟩ by unfold Addr.add; split <;> simp_all] at hc
    rw [Nat.zero_add, hc, getElem!_pos _ j hj]
    simp [encW]
theorem words_nodup {X M R N : Nat} {E : Array Nat} (hX : X < 2 ^ 64) (hM2 : M % 2 = 1) (hR : R < 64) (hsz : E.size = N) (hval : ∀ t, t < N → E[t]! = word X M R t) (hN : N ≤ 1048576 := by omega) : E.toList.Nodup := by
  unfold List.Nodup
  rw [List.pairwise_iff_getElem]
  intro i j hi hj hij e
  have hi' : i < E.size := by simpa using hi
  have hj' : j < E.size := by simpa using hj
  have e1 := hval i (by omega)
  have e2 := hval j (by omega)
  rw [getElem!_pos E i hi'] at e1
  rw [getElem!_pos E j hj'] at e2
  have e' : E[i] = E[j] := by simpa using e
  have := word_inj hX hM2 hR (by omega) (by omega) (e1.symm.trans (e'.trans e2))
  omega
theorem xor_step (X M i : Nat) (hX : X < 2 ^ 64) : bits .xor .u64 (X : Int) (IntKind.u64.wrap ((i : Int) * (M : Int))) = ((X ^^^ (i * M % 2 ^ 64) : Nat) : Int) := by
  have e1 : IntKind.u64.wrap ((i : Int) * (M : Int)) = ((i * M % 2 ^ 64 : Nat) : Int) := by
    rw [IntKind.wrap_u64, ← Int.natCast_mul]
    exact (Int.natCast_emod _ _).symm
  rw [e1, u64_xor_nat _ _ hX (Nat.mod_lt _ (Nat.two_pow_pos 64))]
set_option maxRecDepth 1000000 in
set_option maxHeartbeats 1000000 in
theorem radix (n x mm r : Int) (w : World) (hn0 : 0 ≤ n) (hn1 : n ≤ 65535) (X M R N : Nat) (hX : X < 2 ^ 64) (hM : M < 2 ^ 64) (hM2 : M % 2 = 1) (hR : R < 64) (hx : x = (X : Int)) (hmm : bits .or .u64 mm 1 = (M : Int)) (hr : r % 64 = (R : Int)) (hr0 : 0 ≤ r) (hr1 : r ≤ 255) (hN : 48 + n % 400 = (N : Int)) :
    Calls Yba.prog 4 #[.int .u16 n, .int .u64 x, .int .u64 mm, .int .u8 r] w fun e w' => e = .returned (.bool true) ∧ Below w.heap.size w w' := by
  subst hx
  obtain ⟨i0, hi, hz0, hz1, hz2⟩ := info_parts info23
  have hNb : N < 448 := by omega
  have hN48 : 48 ≤ N := by omega
  go_enter Yba.func4, Yba.ntmps4
  go_wp2_with (first | (at_make; refine wpList_make_full _ rfl _ _ 22 rfl w.heap.size 23 i0 (.int .u64 0) 1 Yba.underlying22 hi hz0 hz1 .i64 .i64 _ _ N rfl rfl ?hL ?hC ?hb2 ?hb3 (Nat.le_refl _) ?_; rotate_left 4; intro w0 hown hgrow))
  case hL => rfl
  case hC => rfl
  case hb2 => rw [hz2]; omega
  case hb3 => unfold maxLen; omega
  have hH0 : Holds encW w0 w.heap.size 0 (Array.replicate N 0) := made_holds hown
  have hg0 : w.heap.size < w0.heap.size := World.block_lt_of_cell? w0 _ (hH0 0 (by simp; omega)).1
  have hB0 : RowKit.Below w.heap.size w w0 := (RowKit.Below.refl _ _).grown hgrow (Nat.le_refl _) (fun _ e => by cases e)
  have HH0 := hide hH0
  have HB0 := hide hB0
  clear hH0 hB0 hown hgrow hi hz0 hz1 hz2
  go_loopw [13] (fun vi wr => ∃ (i : Nat) (E : Array Nat), i ≤ N ∧ vi = .int .i64 i ∧ E.size = N ∧ Row w0 wr w.heap.size 0 E ∧ ∀ t, t < i → E[t]! = word X M R t) (fun vi _ => N - (RowKit.intOf vi).toNat)
  case atStart => exact ⟨0, Array.replicate N 0, Nat.zero_le _, rfl, by simp, row_start (unhide HH0), fun t ht => by omega⟩
  case round =>
    obtain ⟨i, E, hiN, rfl, hsz, hRw, hval⟩ := hrel
    by_cases hlt : i < N
    · have hwx : bits .xor .u64 (X : Int) (IntKind.u64.wrap ((i : Int) * (M : Int))) = ((X ^^^ (i * M % 2 ^ 64) : Nat) : Int) := xor_step X M i hX
      have q1 : wr.cell? ⟨w.heap.size, i, none⟩ = some (.int .u64 ((E[i]! : Nat) : Int)) := by have := hRw.cell (unhide HH0) (by simp [hsz]) (j := i) (by simp; omega); rwa [Nat.zero_add] at this
      have q2 : wr.frozen? ⟨w.heap.size, i, none⟩ = false := by have := hRw.frozen (unhide HH0) (j := i) (by simp; omega); rwa [Nat.zero_add] at this
      obtain ⟨V, hV⟩ : ∃ V, X ^^^ (i * M % 2 ^ 64) = V := ⟨_, rfl⟩
      have hV2 : V < 2 ^ 64 := by rw [← hV]; exact word_mid X M i hX
      rw [hV] at hwx
      have hwd : word X M R i = rotN R V := by rw [← hV]; rfl
      have HV2 := hide hV2
      have HWD := hide hwd
      have HRW := hide hRw
      have HVAL := hide hval
      clear hRw hval hV hV2 hwd
      go_wp2_with fail
      refine (rot V R _ (unhide HV2) hR).mono ?_
      rintro e w' ⟨rfl, rfl⟩
      go_wp2
      go_roundw
      case rel =>
        refine ⟨i + 1, E.setIfInBounds i (rotN R V), by omega, by go_num, by simp [hsz], ?_, fun t ht => ?_⟩
        · have := (unhide HRW).set (j := i) (by omega) (rotN R V)
          rwa [Nat.zero_add] at this
        · by_cases e : t = i
          · rw [e, getElem!_set_same _ _ _ (by omega), unhide HWD]
          · rw [getElem!_set_other _ _ _ _ e]; exact unhide HVAL t (by omega)
      case measure => simp [RowKit.intOf]; omega
    · obtain rfl : N = i := by omega
      have hH1 : Holds encW wr w.heap.size 0 E := hRw.holds (unhide HH0) (by simp [hsz])
      have hnd : E.toList.Nodup := words_nodup hX hM2 hR hsz hval
      have hu : ∀ t, t < N → E[t]! < 2 ^ 64 := fun t ht => by rw [hval t ht]; exact word_lt X M R t hX
      have hB1 : RowKit.Below w.heap.size w wr := (unhide HB0).trans (hRw.below (Nat.le_refl _) (by omega))
      have hsz1 := hRw.size
      have HH1 := hide hH1
      have HND := hide hnd
      have HU := hide hu
      have HB1 := hide hB1
      clear hH1 hnd hu hB1 hRw hval HH0 HB0
      go_wp2_with fail
      refine (clone_pos (D := E) N hsz (by omega) (by omega) (unhide HH1)).mono ?_
      rintro e w1 ⟨gi, ci, rfl, hgi, hgi2, hin, hgr⟩
      have hH2 : Holds encW w1 w.heap.size 0 E := holds_grown (unhide HH1) (by omega) hgr
      have hsz2 := hgr.size
      have HIN := hide hin
      have HGR := hide hgr
      have HH2 := hide hH2
      clear hin hgr hH2
      go_wp2_with fail
      refine (sort_call (D := E) N hsz (Nat.le_refl _) (by omega) (unhide HH2) (unhide HND) (unhide HU)).mono ?_
      rintro e w2 ⟨rfl, D', hp, hs, hr2⟩
      have hrd := ready hsz (show w.heap.size ≠ gi by omega) hgi2 (unhide HH2) (unhide HND) (unhide HIN) hp hs hr2
      have hB2 : RowKit.Below w.heap.size w w2 := ((unhide HB1).grown (unhide HGR) (by omega) (fun _ e => by cases e)).trans (hr2.below (Nat.le_refl _) (by omega))
      have HRD := hide hrd
      have HB2 := hide hB2
      clear hp hs hr2 hrd hB2
      go_wp2_with fail
      refine (check gi 0 ci w.heap.size 0 N N (fun t => ((E[t]! : Nat) : Int)) (fun t => ((D'[t]! : Nat) : Int)) _ (by omega) (by omega) (unhide HRD).1 (unhide HRD).2.1 (unhide HRD).2.2.1 (unhide HRD).2.2.2).mono ?_
      rintro e w3 ⟨rfl, q, rfl⟩
      go_wp2
      go_ret
      exact ⟨rfl, ⟨(unhide HB2).os, (unhide HB2).tape, (unhide HB2).output, (unhide HB2).size, (unhide HB2).block⟩⟩
end Go.Proofs.Ybulkzss.W
