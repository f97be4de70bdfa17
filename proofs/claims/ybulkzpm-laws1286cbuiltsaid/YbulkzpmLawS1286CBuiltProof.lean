/-
  The proof of a given statement: the frame is the template's, written by program for this function; the walk is typed by hand.
-/
import Derived.Test.YbulkzpmRows
import Derived.WalkKit
import Derived.ProofKit
import Derived.OpenShut
import Derived.Test.YbulkzpmKindWalks
import Derived.ShutString
namespace Go.Proofs.Ybulkzpm.lawS1286CBuilt
open Go.ChangeShapes Go.WideShapes Go.ChangeAt Go.RowKit
open Go.ChangeMaps (open_string shut_string)
set_option linter.unusedVariables false      -- a walk need not use every 'w<i>' (that an integer argument fits its kind)

theorem own : ownKnob Yba.prog.godebug = none := by kernel_rfl

/-- The table's name: one of nine short ones. -/
theorem base (k : Int) (w : World) : Calls Yba.prog 15 #[.int .i64 k] w fun e w' => ∃ b : ByteArray, b.size ≤ 14 ∧ e = .returned (.string b) ∧ w' = w := by
  go_enter Yba.func15, Yba.ntmps15
  go_wp2
  all_goals
    go_ret
    exact ⟨_, by decide, rfl, rfl⟩
theorem star : (⟨#[42]⟩ : ByteArray).size = 1 := rfl
theorem short (x : ByteArray) (h : x.size ≤ 2000) : x.size ≤ maxLen := by unfold maxLen; omega

/-! ### STEP 1: THE WALK: the Go text returns true. 'Grown w w'': the world has at most new blocks (Derived/RowKit3.lean). Part the cases AHEAD of 'go_enter' where a test parts the walk; take each callee by a contract of your own. -/
theorem walk (a0 : Int) (a1 : Bool) (a2 : Bool) (a3 : ByteArray) (w0 : (Lit.int .u8 a0).wf = true) (w3 : a3.size ≤ maxLen) (w : World) :
    Calls Yba.prog 8 #[.int .u8 a0, .bool a1, .bool a2, .string a3] w fun e w' => e = .returned (.bool true) ∧ Grown w w' := by
  have hself : ∀ x : ByteArray, (x.toList == x.toList) = true := fun x => by simp
  by_cases hl : 1024 < a3.size
  · go_enter Yba.func8, Yba.ntmps8
    go_wp2
    go_ret
    exact ⟨rfl, Grown.refl _⟩
  · cases a1
    · cases a2
      · go_enter Yba.func8, Yba.ntmps8
        go_wp2_with fail
        refine (base _ _).mono ?_
        rintro e w' ⟨b, hb, rfl, rfl⟩
        go_wp2_with fail
        refine (Kind.jsonKind _ (short _ (by omega)) _).mono ?_
        rintro e w' ⟨rfl, rfl⟩
        go_wp2_with fail
        refine (Kind.model _ (short _ (by omega)) _).mono ?_
        rintro e w' ⟨rfl, rfl⟩
        go_wp2
        go_ret
        exact ⟨rfl, Grown.refl _⟩
      · go_enter Yba.func8, Yba.ntmps8
        go_wp2_with fail
        refine (base _ _).mono ?_
        rintro e w' ⟨b, hb, rfl, rfl⟩
        go_wp2_with fail
        refine (Kind.jsonKind _ (short _ (by rw [ByteArray.size_append]; omega)) _).mono ?_
        rintro e w' ⟨rfl, rfl⟩
        go_wp2_with fail
        refine (Kind.model _ (short _ (by rw [ByteArray.size_append]; omega)) _).mono ?_
        rintro e w' ⟨rfl, rfl⟩
        go_wp2
        go_ret
        exact ⟨rfl, Grown.refl _⟩
    · cases a2
      · go_enter Yba.func8, Yba.ntmps8
        go_wp2_with fail
        refine (base _ _).mono ?_
        rintro e w' ⟨b, hb, rfl, rfl⟩
        go_wp2_with fail
        refine (Kind.jsonKind _ (short _ (by rw [ByteArray.size_append, star]; omega)) _).mono ?_
        rintro e w' ⟨rfl, rfl⟩
        go_wp2_with fail
        refine (Kind.model _ (short _ (by rw [ByteArray.size_append, star]; omega)) _).mono ?_
        rintro e w' ⟨rfl, rfl⟩
        go_wp2
        go_ret
        exact ⟨rfl, Grown.refl _⟩
      · go_enter Yba.func8, Yba.ntmps8
        go_wp2_with fail
        refine (base _ _).mono ?_
        rintro e w' ⟨b, hb, rfl, rfl⟩
        go_wp2_with fail
        refine (Kind.jsonKind _ (short _ (by rw [ByteArray.size_append, ByteArray.size_append, star]; omega)) _).mono ?_
        rintro e w' ⟨rfl, rfl⟩
        go_wp2_with fail
        refine (Kind.model _ (short _ (by rw [ByteArray.size_append, ByteArray.size_append, star]; omega)) _).mono ?_
        rintro e w' ⟨rfl, rfl⟩
        go_wp2
        go_ret
        exact ⟨rfl, Grown.refl _⟩

/-! ### THE ROW's STEP: WRITTEN OUT: LEAVE IT -/
set_option maxRecDepth 100000 in
theorem lifted (os : Os) (started : os.Started) (H : Type) (enc : TypeId × Value → H) :
    ReturnsInHanded {} Yba.checked os 8 .any (Rows.lawS1286CBuiltSpec.pre6 enc Yba.prog Yba.f8 Rows.lawS1286CBuiltRow.domain false) (Rows.lawS1286CBuiltSpec.post enc Yba.prog Yba.f8 false true false false) := by
  refine returnsInHanded_of_change (C := Yba.checked) own started (by kernel_rfl) Yba.func8
    (ChangeSpec.witness6 (enc := enc) (C := Yba.checked) false ⟨#[], #[.int .u8 0, .bool false, .bool false, .string ByteArray.empty], []⟩ 8 (by kernel_rfl) (by kernel_rfl) (by kernel_rfl) (by kernel_rfl)) ?_
  intro W base args ds gs before hval0 hW hcnd _
  have hval : ∀ (j : Nat) t v, Yba.f8.params[j]? = some t → args[j]? = some v → Value.okWide Yba.prog W .any base t v := hval0
  have hW' := hW
  obtain ⟨p, q, hA0, hV, rfl, hfz, hnd⟩ := hW
  have hA : DataW.TrodAll enc Yba.prog W 0 (fun _ => true) true Yba.f8.params.toList args.toList ds p := hA0
  rw [Yba.params8] at hA hval
  obtain ⟨v0, vs0, d0, ds0, p0, q0, hargs, rfl, rfl, h0, r0⟩ := trodAll_cons hA
  obtain ⟨v1, vs1, d1, ds1, p1, q1, rfl, rfl, rfl, h1, r1⟩ := trodAll_cons r0
  obtain ⟨v2, vs2, d2, ds2, p2, q2, rfl, rfl, rfl, h2, r2⟩ := trodAll_cons r1
  obtain ⟨v3, vs3, d3, ds3, p3, q3, rfl, rfl, rfl, h3, r3⟩ := trodAll_cons r2
  obtain ⟨rfl, rfl, rfl⟩ := trodAll_nil r3
  obtain rfl : args = #[v0, v1, v2, v3] := by cases args; simp_all
  obtain ⟨rfl, rfl⟩ := trodVars_none hV
  obtain ⟨a0, rfl, rfl, rfl, w0⟩ := open_int Yba.underlying5 (hval 0 5 v0 rfl rfl) h0
  obtain ⟨a1, rfl, rfl, rfl⟩ := open_bool Yba.underlying4 (hval 1 4 v1 rfl rfl) h1
  obtain ⟨a2, rfl, rfl, rfl⟩ := open_bool Yba.underlying4 (hval 2 4 v2 rfl rfl) h2
  obtain ⟨a3, rfl, rfl, rfl, w3⟩ := open_string Yba.underlying9 (hval 3 9 v3 rfl rfl) h3
  clear hA0 hval0
  simp only [List.append_nil] at hW'
  refine (walk a0 a1 a2 a3 w0 w3 W).mono fun e W' ⟨he, hg⟩ => ?_
  subst he
  exact ⟨_, rfl, post_of_same (pa := []) (pv := []) hW' (fun _ _ _ => (trodAll_cons_mk (shut_bool Yba.underlying4 _) trodAll_mk0)) (fun sp _ => (trodAll_cons_mk (shut_int Yba.underlying5 w0) (trodAll_cons_mk (shut_bool Yba.underlying4 _) (trodAll_cons_mk (shut_bool Yba.underlying4 _) (trodAll_cons_mk (shut_string Yba.underlying9 w3) trodAll_mk0))))) (fun _ _ => rfl) rfl
    (hg.frame _) hg.2.1 (ok_one (by kernel_rfl) rfl (okWide_bool_mk Yba.underlying4 _))⟩

theorem over : Rows.lawS1286CBuiltRow.holds Yba.pinned (OpenSpec.ofChange Rows.lawS1286CBuiltSpec) :=
  OpenClaim.holds_of_wide 8 Yba.f8 rfl rfl rfl rfl rfl rfl rfl ⟨rfl, rfl, rfl, rfl, rfl⟩ rfl rfl rfl rfl rfl (by kernel_rfl) Yba.func8 (by kernel_rfl)
    (of_decide_eq_true (by kernel_rfl)) (by unfold Func.isWrapper; first | (rw [if_pos (by decide +kernel)]; kernel_rfl) | (rw [if_neg (by decide +kernel)]; exact ⟨rfl, rfl⟩))
    (fun os started H enc _ => lifted os started H enc)

/-- ████ THE STATEMENT ████ -/
theorem proved : Rows.LawS1286CBuiltSaid :=
  over
end Go.Proofs.Ybulkzpm.lawS1286CBuilt
