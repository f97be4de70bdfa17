/-
  The walks of jsonKind, of the two library functions that it calls, and of the law's own model of it: each computes the plain function of YbulkzpmKindPlain.
-/
import Derived.Test.YbulkzpmRows
import Derived.Test.YbulkzpmKindPlain
import Derived.WalkSpells
import Derived.WalkLawsBesides
import Derived.Deep.Light
namespace Go.Proofs.Ybulkzpm.Kind
open Go.RowKit

theorem ret_str {a b : ByteArray} (h : a = b) : Ending.returned (.string a) = .returned (.string b) := by rw [h]
theorem ret_bool {a b : Bool} (h : a = b) : Ending.returned (.bool a) = .returned (.bool b) := by rw [h]

/-- strings.TrimPrefix at one star. -/
theorem trim (s : ByteArray) (hs : s.size ≤ maxLen) (w : World) :
    Calls Yba.prog 19 #[.string s, .string ⟨#[42]⟩] w fun e w' => e = .returned (.string (strip s)) ∧ w' = w := by
  unfold maxLen at hs
  go_enter Yba.func19, Yba.ntmps19
  go_wp2
  all_goals
    go_ret
    refine ⟨ret_str ?_, rfl⟩
    go_light
    symm
    first
    | exact strip_yes s (by assumption)
    | exact strip_no s (by assumption)
    | exact strip_none s (by omega)

/-- strings.HasPrefix at two brackets. -/
theorem has (g : ByteArray) (w : World) :
    Calls Yba.prog 20 #[.string g, .string ⟨#[91, 93]⟩] w fun e w' => e = .returned (.bool (arrB g)) ∧ w' = w := by
  go_enter Yba.func20, Yba.ntmps20
  go_wp2
  all_goals
    go_ret
    refine ⟨ret_bool ?_, rfl⟩
    go_light
    first
    | exact arrB_of g
    | exact arrB_short g (by omega)

set_option maxHeartbeats 400000 in
theorem jsonKind (s : ByteArray) (hs : s.size ≤ maxLen) (w : World) :
    Calls Yba.prog 13 #[.string s] w fun e w' => e = .returned (.string (kg (strip s))) ∧ w' = w := by
  go_enter Yba.func13, Yba.ntmps13
  go_wp2_with (first | (go_at_call 19; refine (trim _ hs _).mono ?_; rintro e w' ⟨rfl, rfl⟩) | (go_at_call 20; refine (has _ _).mono ?_; rintro e w' ⟨rfl, rfl⟩))
  all_goals
    go_ret
    refine ⟨ret_str ?_, rfl⟩
    go_light
    symm
    first
    | exact kg_string _ (by assumption)
    | exact kg_clash _ _ (by assumption) (by assumption)
    | exact kg_int64 _ (by assumption) (by assumption)
    | exact kg_int _ (by assumption) (by assumption)
    | exact kg_arrB _ (by assumption) (by assumption) (by assumption) (by assumption)
    | exact kg_objB _ (by assumption) (by assumption) (by assumption) (by assumption)

set_option maxHeartbeats 1000000 in
theorem model (s : ByteArray) (hs : s.size ≤ maxLen) (w : World) :
    Calls Yba.prog 14 #[.string s] w fun e w' => e = .returned (.string (kg (strip s))) ∧ w' = w := by
  unfold maxLen at hs
  go_enter Yba.func14, Yba.ntmps14
  go_wp2
  all_goals
    go_ret
    refine ⟨ret_str ?_, rfl⟩
    go_light
    first
    | rw [strip_byte s (by assumption) (by assumption)]
    | rw [strip_nobyte s (by assumption) (by assumption)]
    | rw [strip_none s (by assumption)]
    symm
    first
    | exact kg_string _ (by assumption)
    | exact kg_whole _ (by assumption) (by assumption)
    | exact kg_int64 _ (by assumption) (by rw [beq_iff_eq]; assumption)
    | exact kg_two' _ (by assumption) (by assumption) (by first | omega | (simp; omega)) (by assumption) (by assumption)
    | exact kg_notone _ (by assumption) (by assumption) (by first | omega | (simp; omega)) (by assumption)
    | exact kg_notother _ (by assumption) (by assumption) (by first | omega | (simp; omega)) (by assumption)
    | exact kg_short' _ (by assumption) (by assumption) (by first | omega | (simp; omega))
end Go.Proofs.Ybulkzpm.Kind
