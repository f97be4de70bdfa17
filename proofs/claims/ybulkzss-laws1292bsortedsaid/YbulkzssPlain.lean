/-
  sortWords without Go: the byte that a word is dealt by, how many words lie ahead of a byte's bucket, what the dealing keeps, and that sorted buckets make a sorted whole. Lists, arrays and numbers alone.
-/
import Derived.Sort.LotA
namespace Go.Proofs.Ybulkzss.Plain
open Go.Sort

/-- The window [a, a + m) of an array, as a list. -/
def win (D : Array Nat) (a m : Nat) : List Nat := (D.extract a (a + m)).toList

theorem win_eq (D : Array Nat) (a m : Nat) (h : a + m ≤ D.size) : win D a m = (List.range' a m).map (fun i => D[i]!) := by
  unfold win; rw [extract_toList D a (a + m) h]; simp
theorem win_length (D : Array Nat) (a m : Nat) (h : a + m ≤ D.size) : (win D a m).length = m := by rw [win_eq D a m h]; simp
theorem win_at (D : Array Nat) (a m i : Nat) (h : a + m ≤ D.size) (hi : i < m) : (win D a m)[i]? = some D[a + i]! := by
  rw [win_eq D a m h]; simp [hi]
theorem win_mem (D : Array Nat) (a m : Nat) (h : a + m ≤ D.size) (x : Nat) : x ∈ win D a m ↔ ∃ i, i < m ∧ D[a + i]! = x := by
  rw [win_eq D a m h, List.mem_map]
  constructor
  · rintro ⟨j, hj, e⟩
    have := List.mem_range'_1.1 hj
    exact ⟨j - a, by omega, by rw [show a + (j - a) = j by omega]; exact e⟩
  · rintro ⟨i, hi, e⟩
    exact ⟨a + i, List.mem_range'_1.2 ⟨by omega, by omega⟩, e⟩
theorem win_perm {D E : Array Nat} {a m : Nat} (h : PermIn a (a + m) D E) : (win E a m).Perm (win D a m) := h.2.2

/-! ### the byte -/
def key (s w : Nat) : Nat := w / 2 ^ s % 256
theorem key_lt (s w : Nat) : key s w < 256 := Nat.mod_lt _ (by decide)

/-- How many of the words have a byte below c. -/
def bel (s : Nat) (L : List Nat) (c : Nat) : Nat := L.countP (fun w => decide (key s w < c))
theorem bel_zero (s : Nat) (L : List Nat) : bel s L 0 = 0 := by simp [bel]
theorem bel_all (s : Nat) (L : List Nat) : bel s L 256 = L.length := by
  unfold bel
  rw [List.countP_eq_length]
  intro w _; simp [key_lt]
theorem bel_succ (s : Nat) (L : List Nat) (c : Nat) : bel s L (c + 1) = bel s L c + L.countP (fun w => key s w == c) := by
  unfold bel
  induction L with
  | nil => rfl
  | cons w r ih =>
    simp only [List.countP_cons, ih]
    by_cases h1 : key s w < c
    · have h2 : key s w < c + 1 := by omega
      have h3 : ¬ key s w = c := by omega
      simp [h1, h2, h3]; omega
    · by_cases h3 : key s w = c
      · simp [h3]; omega
      · have h2 : ¬ key s w < c + 1 := by omega
        simp [h1, h2, h3]
theorem bel_mono (s : Nat) (L : List Nat) {c c' : Nat} (h : c ≤ c') : bel s L c ≤ bel s L c' := by
  unfold bel
  apply List.countP_mono_left
  intro w _ hw
  simp at hw ⊢; omega
theorem bel_le (s : Nat) (L : List Nat) {c : Nat} (h : c ≤ 256) : bel s L c ≤ L.length := by rw [← bel_all s L]; exact bel_mono s L h
theorem bel_perm (s : Nat) {L L' : List Nat} (h : L'.Perm L) (c : Nat) : bel s L' c = bel s L c := h.countP_eq _

/-- Every place of the window lies in one bucket. -/
theorem bucket_of (s : Nat) (L : List Nat) (i : Nat) : ∀ c, i < bel s L c → ∃ b, b < c ∧ bel s L b ≤ i ∧ i < bel s L (b + 1)
  | 0, h => by rw [bel_zero] at h; omega
  | c + 1, h => by
    by_cases hc : i < bel s L c
    · obtain ⟨b, h1, h2⟩ := bucket_of s L i c hc
      exact ⟨b, by omega, h2⟩
    · exact ⟨c, by omega, by omega, h⟩

/-- Among the words, more than 't - p' have the property if all the places p .. t - 1 have it, and one more place. -/
theorem count_room (P : Nat → Bool) (L : List Nat) (p t q : Nat) (hpt : p ≤ t) (ht : t ≤ L.length) (hq : q < L.length) (hout : q < p ∨ t ≤ q)
    (hall : ∀ i, p ≤ i → i < t → ∀ x, L[i]? = some x → P x = true) (hone : ∀ x, L[q]? = some x → P x = true) : t - p < L.countP P := by
  have e1 : L = L.take p ++ ((L.drop p).take (t - p) ++ L.drop t) := by
    conv => lhs; rw [← List.take_append_drop p L]
    congr 1
    conv => lhs; rw [← List.take_append_drop (t - p) (L.drop p)]
    rw [List.drop_drop]; congr 2; omega
  have hmid : ((L.drop p).take (t - p)).countP P = t - p := by
    have hl : ((L.drop p).take (t - p)).length = t - p := by simp; omega
    have e : ((L.drop p).take (t - p)).countP P = ((L.drop p).take (t - p)).length := by
      refine List.countP_eq_length.2 (fun x hx => ?_)
      obtain ⟨i, hi, he⟩ := List.getElem_of_mem hx
      rw [hl] at hi
      refine hall (p + i) (by omega) (by omega) x ?_
      rw [List.getElem_take, List.getElem_drop] at he
      rw [← he]
      exact List.getElem?_eq_getElem _
    rw [e, hl]
  have hc : L.countP P = (L.take p).countP P + ((t - p) + (L.drop t).countP P) := by
    conv => lhs; rw [e1]
    rw [List.countP_append, List.countP_append, hmid]
  rw [hc]
  rcases hout with h | h
  · have : 0 < (L.take p).countP P := by
      refine List.countP_pos_iff.2 ⟨L[q], ?_, hone _ (List.getElem?_eq_getElem hq)⟩
      rw [List.mem_take_iff_getElem]
      exact ⟨q, by omega, rfl⟩
    omega
  · have : 0 < (L.drop t).countP P := by
      refine List.countP_pos_iff.2 ⟨L[q], ?_, hone _ (List.getElem?_eq_getElem hq)⟩
      rw [List.mem_drop_iff_getElem]
      exact ⟨q - t, by omega, by congr 1; omega⟩
    omega

/-! ### a table of 256 numbers -/
def upd (f : Nat → Nat) (c v : Nat) : Nat → Nat := fun i => if i = c then v else f i
theorem upd_same (f : Nat → Nat) (c v : Nat) : upd f c v c = v := by simp [upd]
theorem upd_other (f : Nat → Nat) (c v i : Nat) (h : i ≠ c) : upd f c v i = f i := by simp [upd, h]
def tot (f : Nat → Nat) (n : Nat) : Nat := ((List.range n).map f).sum
theorem tot_succ (f : Nat → Nat) (n : Nat) : tot f (n + 1) = tot f n + f n := by simp [tot, List.range_succ]
theorem tot_upd_out (f : Nat → Nat) (c v : Nat) : ∀ n, n ≤ c → tot (upd f c v) n = tot f n
  | 0, _ => rfl
  | n + 1, h => by rw [tot_succ, tot_succ, tot_upd_out f c v n (by omega), upd_other f c v n (by omega)]
theorem tot_upd (f : Nat → Nat) (c v : Nat) : ∀ n, c < n → tot (upd f c v) n + f c = tot f n + v
  | 0, h => by omega
  | n + 1, h => by
    rw [tot_succ, tot_succ]
    by_cases e : n = c
    · subst e
      rw [tot_upd_out f n v n (Nat.le_refl _), upd_same]; omega
    · rw [upd_other f c v n e]
      have := tot_upd f c v n (by omega)
      omega
theorem tot_le (f g : Nat → Nat) : ∀ n, (∀ c, c < n → f c ≤ g c) → tot f n ≤ tot g n
  | 0, _ => Nat.le_refl _
  | n + 1, h => by
    rw [tot_succ, tot_succ]
    have := tot_le f g n (fun c hc => h c (by omega))
    have := h n (by omega)
    omega

/-! ### the dealing -/
/-- E is D with its window dealt so far: the first f c places of each bucket, from its start on, hold words of the bucket's byte. -/
structure Part (s a m : Nat) (D E : Array Nat) (f : Nat → Nat) : Prop where
  perm : PermIn a (a + m) D E
  lo : ∀ c, c < 256 → bel s (win D a m) c ≤ f c
  hi : ∀ c, c < 256 → f c ≤ bel s (win D a m) (c + 1)
  filled : ∀ c, c < 256 → ∀ i, bel s (win D a m) c ≤ i → i < f c → key s E[a + i]! = c

section
variable {s a m : Nat} {D E : Array Nat} {f : Nat → Nat}

theorem Part.start : Part s a m D D (bel s (win D a m)) :=
  ⟨permIn_refl _ _ _, fun _ _ => Nat.le_refl _, fun c _ => bel_mono s _ (Nat.le_succ c), fun c _ i h1 h2 => by omega⟩

theorem apart {L : List Nat} {b c i : Nat} (hb1 : bel s L b ≤ i) (hb2 : i < bel s L (b + 1)) (hc1 : bel s L c ≤ i) (hc2 : i < bel s L (c + 1)) : b = c := by
  rcases Nat.lt_trichotomy b c with h | h | h
  · have := bel_mono s L (show b + 1 ≤ c by omega); omega
  · exact h
  · have := bel_mono s L (show c + 1 ≤ b by omega); omega

/-- There is room in the bucket of the word in hand. -/
theorem Part.room (h : Part s a m D E f) (hm : a + m ≤ D.size) {b c p : Nat} (hb : b < 256) (hc : c < 256) (hbc : b ≠ c) (hp : p = f b) (hpb : f b < bel s (win D a m) (b + 1)) (hk : key s E[a + p]! = c) :
    f c < bel s (win D a m) (c + 1) := by
  have hE : a + m ≤ E.size := by rw [h.perm.1]; exact hm
  have hperm := win_perm h.perm
  have hlen : (win D a m).length = m := win_length D a m hm
  rcases Nat.lt_or_ge (f c) (bel s (win D a m) (c + 1)) with h1 | h1
  · exact h1
  · exfalso
    have hb256 : bel s (win D a m) (b + 1) ≤ m := by have := bel_le s (win D a m) (show b + 1 ≤ 256 by omega); omega
    have hc256 : bel s (win D a m) (c + 1) ≤ m := by have := bel_le s (win D a m) (show c + 1 ≤ 256 by omega); omega
    have hpm : p < m := by omega
    have hlob := h.lo b hb
    have hcnt := count_room (fun w => key s w == c) (win E a m) (bel s (win D a m) c) (bel s (win D a m) (c + 1)) p (bel_mono s _ (Nat.le_succ c)) (by rw [win_length E a m hE]; exact hc256)
      (by rw [win_length E a m hE]; exact hpm) ?_ ?_ ?_
    · have e := hperm.countP_eq (fun w => key s w == c)
      have e2 := bel_succ s (win D a m) c
      omega
    · rcases Nat.lt_or_ge p (bel s (win D a m) c) with h2 | h2
      · exact Or.inl h2
      · rcases Nat.lt_or_ge p (bel s (win D a m) (c + 1)) with h3 | h3
        · exact absurd (apart (b := b) (c := c) (by omega) (by omega) h2 h3) hbc
        · exact Or.inr h3
    · intro i hi1 hi2 x hx
      rw [win_at E a m i hE (by omega)] at hx
      cases hx
      simp [h.filled c hc i hi1 (by omega)]
    · intro x hx
      rw [win_at E a m p hE hpm] at hx
      cases hx
      simp [hk]

/-- The word in hand goes to the next place of its bucket; the one that lay there comes to hand. -/
theorem Part.swap (h : Part s a m D E f) (hm : a + m ≤ D.size) {b c p : Nat} (hb : b < 256) (hc : c < 256) (hbc : b ≠ c) (hp : p = f b) (hpb : f b < bel s (win D a m) (b + 1)) (hk : key s E[a + p]! = c) :
    Part s a m D (swp E (a + p) (a + f c)) (upd f c (f c + 1)) := by
  have hroom := h.room hm hb hc hbc hp hpb hk
  have hlen : (win D a m).length = m := win_length D a m hm
  have hE : a + m ≤ E.size := by rw [h.perm.1]; exact hm
  have hb256 : bel s (win D a m) (b + 1) ≤ m := by have := bel_le s (win D a m) (show b + 1 ≤ 256 by omega); omega
  have hc256 : bel s (win D a m) (c + 1) ≤ m := by have := bel_le s (win D a m) (show c + 1 ≤ 256 by omega); omega
  have hlob := h.lo b hb
  have hloc := h.lo c hc
  have hpq : p ≠ f c := fun e => hbc (apart (s := s) (L := win D a m) (i := p) (by omega) (by omega) (by omega) (by omega))
  refine ⟨permIn_trans _ _ _ _ _ h.perm (swp_permIn E a (a + m) (a + p) (a + f c) (by omega) (by omega) (by omega) (by omega) hE), ?_, ?_, ?_⟩
  · intro x hx
    by_cases e : x = c
    · subst e; rw [upd_same]; omega
    · rw [upd_other _ _ _ _ e]; exact h.lo x hx
  · intro x hx
    by_cases e : x = c
    · subst e; rw [upd_same]; omega
    · rw [upd_other _ _ _ _ e]; exact h.hi x hx
  · intro x hx i h1 h2
    by_cases e : x = c
    · subst e
      rw [upd_same] at h2
      by_cases ei : i = f x
      · subst ei
        rw [swp_right E (a + p) (a + f x) (by omega)]
        exact hk
      · have hip : i ≠ p := fun e => hbc (apart (s := s) (L := win D a m) (i := p) (by omega) (by omega) (by omega) (by omega))
        rw [swp_other E _ _ _ (by omega) (by omega)]
        exact h.filled x hx i h1 (by omega)
    · rw [upd_other _ _ _ _ e] at h2
      have hhi := h.hi x hx
      have hiq : i ≠ f c := fun e' => e (apart (s := s) (L := win D a m) (i := i) (by omega) (by omega) (by omega) (by omega))
      have hip : i ≠ p := fun e' => by
        have : x = b := apart (s := s) (L := win D a m) (i := i) (by omega) (by omega) (by omega) (by omega)
        subst this; omega
      rw [swp_other E _ _ _ (by omega) (by omega)]
      exact h.filled x hx i h1 h2

/-- The word in hand is its own bucket's: it stays. -/
theorem Part.stay (h : Part s a m D E f) {b : Nat} (hb : b < 256) (hpb : f b < bel s (win D a m) (b + 1)) (hk : key s E[a + f b]! = b) : Part s a m D E (upd f b (f b + 1)) := by
  refine ⟨h.perm, ?_, ?_, ?_⟩
  · intro x hx
    by_cases e : x = b
    · subst e; rw [upd_same]; have := h.lo x hx; omega
    · rw [upd_other _ _ _ _ e]; exact h.lo x hx
  · intro x hx
    by_cases e : x = b
    · subst e; rw [upd_same]; omega
    · rw [upd_other _ _ _ _ e]; exact h.hi x hx
  · intro x hx i h1 h2
    by_cases e : x = b
    · subst e
      rw [upd_same] at h2
      by_cases ei : i = f x
      · subst ei; exact hk
      · exact h.filled x hx i h1 (by omega)
    · rw [upd_other _ _ _ _ e] at h2
      exact h.filled x hx i h1 h2

/-- How much is still to be dealt. -/
def left (s a m : Nat) (D : Array Nat) (f : Nat → Nat) : Nat := tot (fun c => bel s (win D a m) (c + 1)) 256 - tot f 256
theorem left_step (h : Part s a m D E f) {c : Nat} (hc : c < 256) (hroom : f c < bel s (win D a m) (c + 1)) : left s a m D (upd f c (f c + 1)) < left s a m D f := by
  unfold left
  have h1 := tot_upd f c (f c + 1) 256 hc
  have h2 := tot_le (upd f c (f c + 1)) (fun c => bel s (win D a m) (c + 1)) 256 (fun x hx => by
    by_cases e : x = c
    · subst e; rw [upd_same]; exact hroom
    · rw [upd_other _ _ _ _ e]; exact h.hi x hx)
  omega
end
end Go.Proofs.Ybulkzss.Plain
