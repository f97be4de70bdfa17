/-
  The plain part of the two laws on jsonKind: the kind of a type's name, as a function on bytes, and one small lemma for each test in the form in which the walk leaves it. No Go in sight.
-/
import Derived.WalkKit
import Derived.Lib.Strings
import Derived.Lib.IndexBytes
namespace Go.Proofs.Ybulkzpm.Kind

/-- One leading star is dropped. -/
def stripL (l : List UInt8) : List UInt8 := if (l.take 1 == [42]) = true then l.drop 1 else l
/-- The kind that belongs to a name. -/
def kindL (l : List UInt8) : List UInt8 :=
  if (l == [115, 116, 114, 105, 110, 103]) = true then [97, 32, 115, 116, 114, 105, 110, 103]
  else if (l == [105, 110, 116, 54, 52]) = true ∨ (l == [105, 110, 116]) = true then [97, 32, 119, 104, 111, 108, 101, 32, 110, 117, 109, 98, 101, 114]
  else if (l.take 2 == [91, 93]) = true then [97, 110, 32, 97, 114, 114, 97, 121]
  else [97, 110, 32, 111, 98, 106, 101, 99, 116]
def kg (g : ByteArray) : ByteArray := ⟨(kindL g.data.toList).toArray⟩
def strip (s : ByteArray) : ByteArray := ⟨(stripL s.data.toList).toArray⟩

theorem whole (s : ByteArray) : (⟨s.data.toList.toArray⟩ : ByteArray) = s := Lib.mk_data s
theorem drop_one (s : ByteArray) : (⟨(s.data.toList.drop 1).toArray⟩ : ByteArray) = s.extract 1 s.size := by
  rw [← Lib.extract_to_end s 1]
theorem take_one (s : ByteArray) : (s.extract 0 1).toList = s.data.toList.take 1 := by rw [Lib.extract_toList]; rfl
theorem take_two (s : ByteArray) : (s.extract 0 2).toList = s.data.toList.take 2 := by rw [Lib.extract_toList]; rfl

theorem strip_yes (s : ByteArray) (h : ((s.extract 0 1).toList == [42]) = true) : strip s = s.extract 1 s.size := by
  unfold strip stripL
  rw [take_one] at h
  rw [if_pos h]; exact drop_one s
theorem strip_no (s : ByteArray) (h : ((s.extract 0 1).toList == [42]) = false) : strip s = s := by
  unfold strip stripL
  rw [take_one] at h
  rw [if_neg (by simp [h])]
theorem first_byte (s : ByteArray) (h0 : 0 < s.size) : s.data.toList.take 1 = [s[0]] := by
  have h := Lib.data_getElem? s 0 h0
  cases hl : s.data.toList with
  | nil => rw [hl] at h; simp at h
  | cons a t => rw [hl] at h; simp at h; simp [h]
theorem two_first (s : ByteArray) (h0 : 1 < s.size) : s.data.toList.take 2 = [s[0], s[1]] := by
  obtain ⟨tl, h⟩ := Lib.two_bytes s (by omega)
  rw [h]; rfl
theorem strip_none (s : ByteArray) (h : ¬ 0 < s.size) : strip s = s := by
  refine strip_no s ?_
  rw [take_one]
  rw [Lib.size_eq] at h
  rw [List.eq_nil_of_length_eq_zero (by omega : s.data.toList.length = 0)]; rfl
theorem strip_byte (s : ByteArray) (h0 : 0 < s.size) (h : (((s[0].toNat : Nat) : Int) == 42) = true) : strip s = s.extract 1 s.size := by
  refine strip_yes s ?_
  rw [take_one, first_byte s h0]
  have e : s[0] = 42 := by
    have : s[0].toNat = 42 := by simp at h; omega
    exact UInt8.toNat_inj.1 this
  rw [e]; rfl
theorem strip_nobyte (s : ByteArray) (h0 : 0 < s.size) (h : (((s[0].toNat : Nat) : Int) == 42) = false) : strip s = s := by
  refine strip_no s ?_
  rw [take_one, first_byte s h0]
  have e : s[0] ≠ 42 := by
    intro e
    rw [e] at h; simp at h
  simp [e]

/-! the kind, by the tests that were taken -/
theorem kg_string (g : ByteArray) (h : (g.toList == [115, 116, 114, 105, 110, 103]) = true) : kg g = ⟨#[97, 32, 115, 116, 114, 105, 110, 103]⟩ := by
  rw [Lib.toList_data] at h
  unfold kg kindL; rw [if_pos h]
theorem kg_int64 (g : ByteArray) (h1 : (g.toList == [115, 116, 114, 105, 110, 103]) = false) (h : (g.toList == [105, 110, 116, 54, 52]) = true) : kg g = ⟨#[97, 32, 119, 104, 111, 108, 101, 32, 110, 117, 109, 98, 101, 114]⟩ := by
  rw [Lib.toList_data] at h h1
  unfold kg kindL; rw [if_neg (by simp [h1]), if_pos (Or.inl h)]
theorem kg_int (g : ByteArray) (h1 : (g.toList == [115, 116, 114, 105, 110, 103]) = false) (h : (g.toList == [105, 110, 116]) = true) : kg g = ⟨#[97, 32, 119, 104, 111, 108, 101, 32, 110, 117, 109, 98, 101, 114]⟩ := by
  rw [Lib.toList_data] at h h1
  unfold kg kindL; rw [if_neg (by simp [h1]), if_pos (Or.inr h)]
theorem kg_whole (g : ByteArray) (h1 : (g.toList == [115, 116, 114, 105, 110, 103]) = false) (h : (g.toList == [105, 110, 116, 54, 52]) = true ∨ (g.toList == [105, 110, 116]) = true) : kg g = ⟨#[97, 32, 119, 104, 111, 108, 101, 32, 110, 117, 109, 98, 101, 114]⟩ :=
  h.elim (kg_int64 g h1) (kg_int g h1)
theorem kg_arr (g : ByteArray) (h1 : (g.toList == [115, 116, 114, 105, 110, 103]) = false) (h2 : (g.toList == [105, 110, 116, 54, 52]) = false) (h3 : (g.toList == [105, 110, 116]) = false)
    (h : ((g.extract 0 2).toList == [91, 93]) = true) : kg g = ⟨#[97, 110, 32, 97, 114, 114, 97, 121]⟩ := by
  rw [Lib.toList_data] at h1 h2 h3
  rw [take_two] at h
  unfold kg kindL; rw [if_neg (by simp [h1]), if_neg (by simp [h2, h3]), if_pos h]
theorem kg_obj (g : ByteArray) (h1 : (g.toList == [115, 116, 114, 105, 110, 103]) = false) (h2 : (g.toList == [105, 110, 116, 54, 52]) = false) (h3 : (g.toList == [105, 110, 116]) = false)
    (h : ((g.extract 0 2).toList == [91, 93]) = false) : kg g = ⟨#[97, 110, 32, 111, 98, 106, 101, 99, 116]⟩ := by
  rw [Lib.toList_data] at h1 h2 h3
  rw [take_two] at h
  unfold kg kindL; rw [if_neg (by simp [h1]), if_neg (by simp [h2, h3]), if_neg (by simp [h])]
theorem kg_short (g : ByteArray) (h1 : (g.toList == [115, 116, 114, 105, 110, 103]) = false) (h2 : (g.toList == [105, 110, 116, 54, 52]) = false) (h3 : (g.toList == [105, 110, 116]) = false)
    (h : g.size < 2) : kg g = ⟨#[97, 110, 32, 111, 98, 106, 101, 99, 116]⟩ := by
  refine kg_obj g h1 h2 h3 ?_
  rw [take_two]
  rw [Lib.size_eq] at h
  have : (g.data.toList.take 2).length < 2 := by rw [List.length_take]; omega
  cases hb : (g.data.toList.take 2 == [91, 93])
  · rfl
  · rw [eq_of_beq hb] at this; simp at this
theorem kg_two (g : ByteArray) (h1 : (g.toList == [115, 116, 114, 105, 110, 103]) = false) (h2 : (g.toList == [105, 110, 116, 54, 52]) = false) (h3 : (g.toList == [105, 110, 116]) = false)
    (h : 1 < g.size) (h4 : g[0].toNat = 91) (h5 : g[1].toNat = 93) : kg g = ⟨#[97, 110, 32, 97, 114, 114, 97, 121]⟩ := by
  refine kg_arr g h1 h2 h3 ?_
  rw [take_two, two_first g h, show g[0] = 91 from UInt8.toNat_inj.1 h4, show g[1] = 93 from UInt8.toNat_inj.1 h5]; rfl
theorem kg_nottwo (g : ByteArray) (h1 : (g.toList == [115, 116, 114, 105, 110, 103]) = false) (h2 : (g.toList == [105, 110, 116, 54, 52]) = false) (h3 : (g.toList == [105, 110, 116]) = false)
    (h : 1 < g.size) (h4 : g[0].toNat ≠ 91 ∨ g[1].toNat ≠ 93) : kg g = ⟨#[97, 110, 32, 111, 98, 106, 101, 99, 116]⟩ := by
  refine kg_obj g h1 h2 h3 ?_
  rw [take_two, two_first g h]
  rcases h4 with h4 | h4
  · have : g[0] ≠ 91 := fun e => h4 (by rw [e]; rfl)
    simp [this]
  · have : g[1] ≠ 93 := fun e => h4 (by rw [e]; rfl)
    simp [this]

/-! the same, in the forms that the model's walk leaves -/
theorem kg_two' (g : ByteArray) (h1 : (g.toList == [115, 116, 114, 105, 110, 103]) = false) (h2 : (g.toList == [105, 110, 116, 54, 52]) = false ∧ (g.toList == [105, 110, 116]) = false)
    (h : 1 < g.size) (h4 : ((g[0].toNat : Nat) : Int) = 91) (h5 : (((g[1].toNat : Nat) : Int) == 93) = true) : kg g = ⟨#[97, 110, 32, 97, 114, 114, 97, 121]⟩ :=
  kg_two g h1 h2.1 h2.2 h (by omega) (by simp at h5; omega)
theorem kg_notone (g : ByteArray) (h1 : (g.toList == [115, 116, 114, 105, 110, 103]) = false) (h2 : (g.toList == [105, 110, 116, 54, 52]) = false ∧ (g.toList == [105, 110, 116]) = false)
    (h : 1 < g.size) (h4 : ¬ ((g[0].toNat : Nat) : Int) = 91) : kg g = ⟨#[97, 110, 32, 111, 98, 106, 101, 99, 116]⟩ :=
  kg_nottwo g h1 h2.1 h2.2 h (Or.inl (by omega))
theorem kg_notother (g : ByteArray) (h1 : (g.toList == [115, 116, 114, 105, 110, 103]) = false) (h2 : (g.toList == [105, 110, 116, 54, 52]) = false ∧ (g.toList == [105, 110, 116]) = false)
    (h : 1 < g.size) (h5 : (((g[1].toNat : Nat) : Int) == 93) = false) : kg g = ⟨#[97, 110, 32, 111, 98, 106, 101, 99, 116]⟩ :=
  kg_nottwo g h1 h2.1 h2.2 h (Or.inr (by intro e; rw [e] at h5; simp at h5))
theorem kg_short' (g : ByteArray) (h1 : (g.toList == [115, 116, 114, 105, 110, 103]) = false) (h2 : (g.toList == [105, 110, 116, 54, 52]) = false ∧ (g.toList == [105, 110, 116]) = false)
    (h : g.size < 2) : kg g = ⟨#[97, 110, 32, 111, 98, 106, 101, 99, 116]⟩ := kg_short g h1 h2.1 h2.2 h

/-- Does the name begin with the two brackets? -/
def arrB (g : ByteArray) : Bool := g.data.toList.take 2 == [91, 93]
theorem arrB_of (g : ByteArray) : ((g.extract 0 2).toList == [91, 93]) = arrB g := by rw [take_two]; rfl
theorem arrB_short (g : ByteArray) (h : ((g.size : Nat) : Int) < 2) : false = arrB g := by
  unfold arrB
  rw [Lib.size_eq] at h
  have : (g.data.toList.take 2).length < 2 := by rw [List.length_take]; omega
  cases hb : (g.data.toList.take 2 == [91, 93])
  · rfl
  · rw [eq_of_beq hb] at this; simp at this
theorem kg_arrB (g : ByteArray) (h1 : (g.toList == [115, 116, 114, 105, 110, 103]) = false) (h2 : (g.toList == [105, 110, 116, 54, 52]) = false) (h3 : (g.toList == [105, 110, 116]) = false)
    (h : arrB g = true) : kg g = ⟨#[97, 110, 32, 97, 114, 114, 97, 121]⟩ := kg_arr g h1 h2 h3 (by rw [arrB_of]; exact h)
theorem kg_objB (g : ByteArray) (h1 : (g.toList == [115, 116, 114, 105, 110, 103]) = false) (h2 : (g.toList == [105, 110, 116, 54, 52]) = false) (h3 : (g.toList == [105, 110, 116]) = false)
    (h : arrB g = false) : kg g = ⟨#[97, 110, 32, 111, 98, 106, 101, 99, 116]⟩ := kg_obj g h1 h2 h3 (by rw [arrB_of]; exact h)
theorem strip_size (s : ByteArray) : (strip s).size ≤ s.size := by
  rw [Lib.size_eq, Lib.size_eq s]
  unfold strip stripL
  split <;> simp
theorem kg_clash (g r : ByteArray) (h : (g.toList == [105, 110, 116, 54, 52]) = true) (h' : (g.toList == [105, 110, 116, 54, 52]) = false) : kg g = r := by
  rw [h] at h'; cases h'
end Go.Proofs.Ybulkzpm.Kind
