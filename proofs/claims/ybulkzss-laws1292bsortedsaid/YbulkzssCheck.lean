/-
  The law's own check of a sorted row, walked.
-/
import Derived.Test.YbulkzssSort
import Derived.WalkSpells
import Derived.WalkLawsBesides
namespace Go.Proofs.Ybulkzss.W
open Go.RowKit Go.Sort Go.Proofs.Ybulkzss.Plain
set_option maxRecDepth 1000000 in
set_option maxHeartbeats 1000000 in
/-- The law's own check: true where 'out' rises strictly and holds every word of 'in'. -/
theorem check (bi oi ci bo oo co n : Nat) (A B : Nat → Int) (w : World) (hn : n ≤ 1048576) (hpos : 0 < n) (hA : ∀ t, t < n → w.cell? ⟨bi, oi + t, none⟩ = some (.int .u64 (A t))) (hB : ∀ t, t < n → w.cell? ⟨bo, oo + t, none⟩ = some (.int .u64 (B t)))
    (hs : ∀ i, i + 1 < n → B i < B (i + 1)) (hm : ∀ i, i < n → ∃ j, j < n ∧ B j = A i) :
    Calls Yba.prog 8 #[.slice (some ⟨bi, oi, none⟩) n ci, .slice (some ⟨bo, oo, none⟩) n co] w fun e w' => e = .returned (.bool true) ∧ ∃ q, w' = w.drewN q := by
  have HS := hide hs
  have HM := hide hm
  clear hs hm
  go_enter Yba.func8, Yba.ntmps8
  go_wp2
  go_loopw [5] (fun vi wr => ∃ (i q : Nat), 1 ≤ i ∧ i ≤ n ∧ vi = .int .i64 i ∧ wr = w.drewN q) (fun vi _ => n - (RowKit.intOf vi).toNat)
  case atStart => exact ⟨1, 0, by omega, by omega, rfl, rfl⟩
  case round =>
    obtain ⟨i, q, hi1, hin, rfl, rfl⟩ := hrel
    by_cases hlt : i < n
    · have hs1 := unhide HS (i - 1) (by omega)
      rw [show i - 1 + 1 = i by omega] at hs1
      have e1 := hB (i - 1) (by omega)
      have e2 := hB i hlt
      go_wp2_with fail
      go_region
      all_goals go_wp2
      go_roundw
      case rel => exact ⟨i + 1, q + 1, by omega, by omega, by go_num, by first | rfl | simp [World.drewN, World.drew, Nat.add_assoc]⟩
      case measure => simp [RowKit.intOf]; omega
    · obtain rfl : n = i := by omega
      go_wp2_with fail
      go_loop [35] (fun vi => ∃ k : Nat, k ≤ n ∧ vi = .int .i64 k) (fun vi => n - (RowKit.intOf vi).toNat)
      case atStart => exact ⟨0, by omega, rfl⟩
      case round =>
        obtain ⟨k, hk, rfl⟩ := hrel
        by_cases hkn : k < n
        · obtain ⟨j0, ⟨hj1, hj2⟩, hmin⟩ := exists_least (unhide HM k hkn)
          have HMIN := hide hmin
          have HJ2 := hide hj2
          clear hmin hj2
          go_wp2_with fail
          go_loop [8, 41] (fun vf vj => ∃ j : Nat, j ≤ j0 ∧ vf = .bool false ∧ vj = .int .i64 j) (fun _ vj => n - (RowKit.intOf vj).toNat)
          case atStart => exact ⟨0, by omega, rfl, rfl⟩
          case round =>
            obtain ⟨j, hj, rfl, rfl⟩ := hrel
            have hjn : j < n := by omega
            by_cases hjj : j = j0
            · subst hjj
              have huy : (B j == A k) = true := by rw [unhide HJ2]; simp
              go_wp2
              go_round
              case rel => exact ⟨k + 1, by omega, by go_num⟩
              case measure => simp [RowKit.intOf]; omega
            · have huy : (B j == A k) = false := by
                cases h : (B j == A k)
                · rfl
                · exfalso
                  have := unhide HMIN j ⟨hjn, eq_of_beq h⟩
                  omega
              go_wp2
              go_round
              case rel => exact ⟨j + 1, by omega, rfl, by go_num⟩
              case measure => simp [RowKit.intOf]; omega
        · go_wp2
          go_ret
          exact ⟨rfl, q, rfl⟩
set_option maxRecDepth 1000000 in
/-- .. of no words. -/
theorem check0 (ai ao : Option Addr) (ci co : Nat) (w : World) : Calls Yba.prog 8 #[.slice ai 0 ci, .slice ao 0 co] w fun e w' => e = .returned (.bool true) ∧ ∃ q, w' = w.drewN q := by
  go_enter Yba.func8, Yba.ntmps8
  go_wp2
  go_loop [5] (fun vi => vi = .int .i64 1) (fun _ => 0)
  case atStart => rfl
  case round =>
    subst hrel
    go_wp2
    go_loop [35] (fun vi => vi = .int .i64 0) (fun _ => 0)
    case atStart => rfl
    case round =>
      subst hrel
      go_wp2
      go_ret
      exact ⟨rfl, 0, rfl⟩
end Go.Proofs.Ybulkzss.W
