/-
  sortWords without Go, second part: the bits in which the words differ, and that sorted buckets make a sorted whole.
-/
import Derived.Test.YbulkzssPlain
import Derived.Lib.ItoaNum
namespace Go.Proofs.Ybulkzss.Plain
open Go.Sort

def ltN (x y : Nat) : Bool := decide (x < y)
theorem swo_ltN : SWO ltN where
  irrefl x := by simp [ltN]
  trans x y z h1 h2 := by simp [ltN] at *; omega
  ntrans x y z h1 h2 := by simp [ltN] at *; omega

/-! ### the bits in which some word differs from w0 -/
def dif (w0 : Nat) (L : List Nat) : Nat := L.foldl (fun acc w => acc ||| (w ^^^ w0)) 0
theorem dif_snoc (w0 : Nat) (L : List Nat) (w : Nat) : dif w0 (L ++ [w]) = dif w0 L ||| (w ^^^ w0) := by simp [dif, List.foldl_append]
theorem dif_fold (w0 : Nat) : ∀ (L : List Nat) (acc : Nat), acc ≤ L.foldl (fun acc w => acc ||| (w ^^^ w0)) acc ∧ ∀ w ∈ L, w ^^^ w0 ≤ L.foldl (fun acc w => acc ||| (w ^^^ w0)) acc
  | [], acc => ⟨Nat.le_refl _, by simp⟩
  | x :: r, acc => by
    obtain ⟨h1, h2⟩ := dif_fold w0 r (acc ||| (x ^^^ w0))
    refine ⟨Nat.le_trans Nat.left_le_or h1, fun w hw => ?_⟩
    rcases List.mem_cons.1 hw with rfl | hw
    · exact Nat.le_trans Nat.right_le_or h1
    · exact h2 w hw
theorem dif_ge (w0 : Nat) (L : List Nat) (w : Nat) (h : w ∈ L) : w ^^^ w0 ≤ dif w0 L := (dif_fold w0 L 0).2 w h
theorem dif_fold_lt (w0 t : Nat) : ∀ (L : List Nat) (acc : Nat), acc < 2 ^ t → (∀ w ∈ L, w ^^^ w0 < 2 ^ t) → L.foldl (fun acc w => acc ||| (w ^^^ w0)) acc < 2 ^ t
  | [], _, h, _ => h
  | x :: r, acc, h, hL => dif_fold_lt w0 t r _ (Nat.or_lt_two_pow h (hL x (by simp))) (fun w hw => hL w (by simp [hw]))
theorem dif_lt (w0 t : Nat) (L : List Nat) (h : ∀ w ∈ L, w ^^^ w0 < 2 ^ t) : dif w0 L < 2 ^ t := dif_fold_lt w0 t L 0 (Nat.two_pow_pos t) h

theorem eq_of_xor {x y : Nat} (h : x ^^^ y = 0) : x = y := by
  have e : (x ^^^ y) ^^^ y = x := by rw [Nat.xor_assoc, Nat.xor_self, Nat.xor_zero]
  rw [h, Nat.zero_xor] at e
  exact e.symm
theorem high_eq {x y t : Nat} (h : x ^^^ y < 2 ^ t) : x / 2 ^ t = y / 2 ^ t := by
  have e : (x ^^^ y) >>> t = 0 := by rw [Nat.shiftRight_eq_div_pow]; exact Nat.div_eq_of_lt h
  rw [Nat.shiftRight_xor_distrib] at e
  have := eq_of_xor e
  rwa [Nat.shiftRight_eq_div_pow, Nat.shiftRight_eq_div_pow] at this
theorem xor_lt_of_high {x y t : Nat} (h : x / 2 ^ t = y / 2 ^ t) : x ^^^ y < 2 ^ t := by
  have e : (x ^^^ y) >>> t = 0 := by
    rw [Nat.shiftRight_xor_distrib, Nat.shiftRight_eq_div_pow, Nat.shiftRight_eq_div_pow, h]; simp
  rw [Nat.shiftRight_eq_div_pow] at e
  rcases Nat.lt_or_ge (x ^^^ y) (2 ^ t) with h1 | h1
  · exact h1
  · have := Nat.div_pos h1 (Nat.two_pow_pos t); omega

theorem div_split (s x : Nat) : x / 2 ^ s = 256 * (x / 2 ^ (s + 8)) + key s x := by
  unfold key
  have e : x / 2 ^ (s + 8) = x / 2 ^ s / 256 := by rw [Nat.pow_add, Nat.div_div_eq_div_mul]
  rw [e]; omega
theorem lt_of_key {s x y : Nat} (hh : x / 2 ^ (s + 8) = y / 2 ^ (s + 8)) (hk : key s x < key s y) : x < y := by
  have e1 := div_split s x
  have e2 := div_split s y
  rcases Nat.lt_or_ge x y with h | h
  · exact h
  · have := Nat.div_le_div_right (c := 2 ^ s) h; omega

/-- The place of the byte: the highest in which any two words differ. -/
def shiftOf (X : Nat) : Nat := 8 * ((Lib.bitLen X - 1) / 8)
theorem len_facts (X : Nat) (h0 : X ≠ 0) (h : X < 2 ^ 64) : 1 ≤ Lib.bitLen X ∧ 2 ^ (Lib.bitLen X - 1) ≤ X ∧ X < 2 ^ Lib.bitLen X := Lib.bitLenAux_bounds 64 X h h0
theorem len_le (X : Nat) (h : X < 2 ^ 64) : Lib.bitLen X ≤ 64 := Lib.bitLen_le X 64 (Nat.le_refl _) h

section
variable {L : List Nat} {w0 : Nat}
theorem dif_small (hu : ∀ w ∈ L, w < 2 ^ 64) (h0 : w0 ∈ L) : dif w0 L < 2 ^ 64 :=
  dif_lt w0 64 L (fun w hw => Nat.xor_lt_two_pow (hu w hw) (hu w0 h0))
theorem dif_pos (hn : L.Nodup) (h0 : w0 ∈ L) (h2 : 2 ≤ L.length) : dif w0 L ≠ 0 := by
  obtain ⟨x, hx, hne⟩ : ∃ x ∈ L, x ≠ w0 := by
    match L, hn, h0, h2 with
    | [], _, _, h2 => simp at h2
    | [_], _, _, h2 => simp at h2
    | p :: q :: r, hn, h0, _ =>
      have hpq : p ≠ q := fun e => by rw [e] at hn; simp at hn
      by_cases e : p = w0
      · exact ⟨q, by simp, fun e' => hpq (e.trans e'.symm)⟩
      · exact ⟨p, by simp, e⟩
  intro e
  have h := dif_ge w0 L x hx
  rw [e] at h
  exact hne (eq_of_xor (Nat.le_zero.1 h))
theorem high_same (hu : ∀ w ∈ L, w < 2 ^ 64) (hn : L.Nodup) (h0 : w0 ∈ L) (h2 : 2 ≤ L.length) : ∀ x ∈ L, ∀ y ∈ L, x / 2 ^ (shiftOf (dif w0 L) + 8) = y / 2 ^ (shiftOf (dif w0 L) + 8) := by
  have hl := len_facts _ (dif_pos hn h0 h2) (dif_small hu h0)
  have hs : Lib.bitLen (dif w0 L) ≤ shiftOf (dif w0 L) + 8 := by unfold shiftOf; omega
  have hone : ∀ x ∈ L, x / 2 ^ (shiftOf (dif w0 L) + 8) = w0 / 2 ^ (shiftOf (dif w0 L) + 8) := fun x hx =>
    high_eq (Nat.lt_of_le_of_lt (dif_ge w0 L x hx) (Nat.lt_of_lt_of_le hl.2.2 (Nat.pow_le_pow_right (by decide) hs)))
  intro x hx y hy
  rw [hone x hx, hone y hy]
/-- No bucket holds them all. -/
theorem bucket_small (hu : ∀ w ∈ L, w < 2 ^ 64) (hn : L.Nodup) (h0 : w0 ∈ L) (h2 : 2 ≤ L.length) (c : Nat) : L.countP (fun w => key (shiftOf (dif w0 L)) w == c) < L.length := by
  have hl := len_facts _ (dif_pos hn h0 h2) (dif_small hu h0)
  rcases Nat.lt_or_ge (L.countP (fun w => key (shiftOf (dif w0 L)) w == c)) L.length with h | h
  · exact h
  · exfalso
    have hall : ∀ w ∈ L, key (shiftOf (dif w0 L)) w = c := by
      have := List.countP_eq_length.1 (Nat.le_antisymm List.countP_le_length h)
      intro w hw; simpa using this w hw
    have hlt : dif w0 L < 2 ^ shiftOf (dif w0 L) := by
      refine dif_lt w0 _ L (fun w hw => xor_lt_of_high ?_)
      rw [div_split, div_split _ w0, hall w hw, hall w0 h0, high_same hu hn h0 h2 w hw w0 h0]
    have hs : shiftOf (dif w0 L) ≤ Lib.bitLen (dif w0 L) - 1 := by unfold shiftOf; omega
    have := Nat.pow_le_pow_right (show 0 < 2 by decide) hs
    omega
end

/-! ### the buckets, one after the other -/
/-- All words are dealt; the first c buckets are sorted. -/
structure Deal (s a m : Nat) (D E : Array Nat) (c : Nat) : Prop where
  perm : PermIn a (a + m) D E
  keyed : ∀ b, b < 256 → ∀ i, bel s (win D a m) b ≤ i → i < bel s (win D a m) (b + 1) → key s E[a + i]! = b
  sorted : ∀ b, b < c → SortedIn ltN (a + bel s (win D a m) b) (a + bel s (win D a m) (b + 1)) E

section
variable {s a m : Nat} {D E : Array Nat}
theorem Deal.start {f : Nat → Nat} (h : Part s a m D E f) (hf : ∀ c, c < 256 → f c = bel s (win D a m) (c + 1)) : Deal s a m D E 0 :=
  ⟨h.perm, fun b hb i h1 h2 => h.filled b hb i h1 (by rw [hf b hb]; exact h2), fun b hb => by omega⟩
theorem Deal.one {c : Nat} (h : Deal s a m D E c) (h1 : bel s (win D a m) (c + 1) ≤ bel s (win D a m) c + 1) : Deal s a m D E (c + 1) := by
  refine ⟨h.perm, h.keyed, fun b hb => ?_⟩
  by_cases e : b = c
  · subst e
    intro i j hi hij hj; omega
  · exact h.sorted b (by omega)
theorem Deal.more {c : Nat} (h : Deal s a m D E c) (hm : a + m ≤ D.size) (hc : c < 256) {E' : Array Nat} (hp : PermIn (a + bel s (win D a m) c) (a + bel s (win D a m) (c + 1)) E E')
    (hs : SortedIn ltN (a + bel s (win D a m) c) (a + bel s (win D a m) (c + 1)) E') : Deal s a m D E' (c + 1) := by
  have hlen : (win D a m).length = m := win_length D a m hm
  have hE : a + m ≤ E.size := by rw [h.perm.1]; exact hm
  have hc256 : bel s (win D a m) (c + 1) ≤ m := by have := bel_le s (win D a m) (show c + 1 ≤ 256 by omega); omega
  have hmono := bel_mono s (win D a m) (Nat.le_succ c)
  refine ⟨permIn_trans _ _ _ _ _ h.perm (permIn_mono _ _ _ _ _ _ (by omega) (by omega) hE hp), fun b hb i h1 h2 => ?_, fun b hb => ?_⟩
  · by_cases e : b = c
    · subst e
      have := permIn_all E E' (a + bel s (win D a m) b) (a + bel s (win D a m) (b + 1)) (fun x => key s x = b) (by omega) hp
        (fun j hj1 hj2 => by have := h.keyed b hb (j - a) (by omega) (by omega); rwa [show a + (j - a) = j by omega] at this) (a + i) (by omega) (by omega)
      exact this
    · have hout : a + i < a + bel s (win D a m) c ∨ a + bel s (win D a m) (c + 1) ≤ a + i := by
        rcases Nat.lt_or_ge b c with hbc | hbc
        · have := bel_mono s (win D a m) (show b + 1 ≤ c by omega); omega
        · have := bel_mono s (win D a m) (show c + 1 ≤ b by omega); omega
      rw [hp.2.1 (a + i) hout]
      exact h.keyed b hb i h1 h2
  · by_cases e : b = c
    · subst e; exact hs
    · have hbc := bel_mono s (win D a m) (show b + 1 ≤ c by omega)
      intro i j hi hij hj
      rw [hp.2.1 i (by omega), hp.2.1 j (by omega)]
      exact h.sorted b (by omega) i j hi hij hj
theorem Deal.done (h : Deal s a m D E 256) (hm : a + m ≤ D.size) (hh : ∀ x ∈ win D a m, ∀ y ∈ win D a m, x / 2 ^ (s + 8) = y / 2 ^ (s + 8)) : SortedIn ltN a (a + m) E := by
  have hlen : (win D a m).length = m := win_length D a m hm
  have hE : a + m ≤ E.size := by rw [h.perm.1]; exact hm
  have hall : bel s (win D a m) 256 = m := by rw [bel_all, hlen]
  have hmem : ∀ i, i < m → E[a + i]! ∈ win D a m := fun i hi => (win_perm h.perm).mem_iff.1 ((win_mem E a m hE _).2 ⟨i, hi, rfl⟩)
  intro i j hi hij hj
  obtain ⟨b, hb, hb1, hb2⟩ := bucket_of s (win D a m) (i - a) 256 (by omega)
  obtain ⟨c, hc, hc1, hc2⟩ := bucket_of s (win D a m) (j - a) 256 (by omega)
  have kb := h.keyed b hb (i - a) hb1 hb2
  have kc := h.keyed c hc (j - a) hc1 hc2
  have mi := hmem (i - a) (by omega)
  have mj := hmem (j - a) (by omega)
  rw [show a + (i - a) = i by omega] at kb mi
  rw [show a + (j - a) = j by omega] at kc mj
  rcases Nat.lt_trichotomy b c with hbc | hbc | hbc
  · have := lt_of_key (hh _ mi _ mj) (by rw [kb, kc]; exact hbc)
    simp [ltN]; omega
  · subst hbc
    exact h.sorted b hb i j (by omega) hij (by omega)
  · have := bel_mono s (win D a m) (show c + 1 ≤ b by omega); omega
end
end Go.Proofs.Ybulkzss.Plain
