/-
  What holds at the head of each round of the law LawS1290BSame: the keys and pointers gathered so far, the ledger's map, and where they lie. No walk here.
-/
import Derived.Test.YbulkzrqWalks
import Derived.Maps.AppendAt
namespace Go.Proofs.Ybulkzrq.Ledger
open Go.RowKit Go.Maps

/-! ### rows and blocks apart, by what their blocks are -/
theorem row_ne_block {w : World} {base e size : Nat} {v : Value} {n : Nat} {xs : List Value} {k : Nat} {o : Obj} (h : w.ownsRow base e size v n xs) (hb : w.heap[k]? = some o)
    (ho : ∀ c fr, o ≠ .cells c e fr) : some k ≠ v.ownBlock := by
  intro he
  rcases h.2 with ⟨rfl, _⟩ | ⟨g, cap, cur, rfl, _, hg, _⟩
  · simp [Value.ownBlock] at he
  · simp [Value.ownBlock] at he
    subst he
    rw [hg] at hb
    injection hb with hb
    exact ho _ _ hb.symm
theorem rows_apart {w : World} {base base' e e' size size' : Nat} {v v' : Value} {n n' : Nat} {xs xs' : List Value} (h : w.ownsRow base e size v n xs) (h' : w.ownsRow base' e' size' v' n' xs') (he : e ≠ e') :
    v.ownBlock = none ∨ v.ownBlock ≠ v'.ownBlock := by
  rcases h.2 with ⟨rfl, _⟩ | ⟨g, cap, cur, rfl, _, hg, _⟩
  · exact Or.inl rfl
  · refine Or.inr (fun e => ?_)
    exact row_ne_block h' hg (fun c fr hc => by injection hc with _ h2; exact he h2) (by simpa [Value.ownBlock] using e)
/-- A row's value is a slice; where it holds something, it begins at a block's head. -/
theorem row_form {w : World} {base e size : Nat} {v : Value} {n : Nat} {xs : List Value} (h : w.ownsRow base e size v n xs) :
    ∃ a c, v = .slice a n c ∧ n ≤ maxLen ∧ (0 < n → ∃ g, a = some ⟨g, 0, none⟩ ∧ ∀ j u, xs[j]? = some u → w.cell? ⟨g, j, none⟩ = some u) := by
  have hc : ∀ g, v.ownBlock = some g → ∀ j u, xs[j]? = some u → w.cell? ((⟨g, 0, none⟩ : Addr).add j) = some u := fun g hg => h.cells hg
  rcases h.2 with ⟨rfl, rfl⟩ | ⟨g, cap, cur, rfl, _, hg, hn, hm, _⟩
  · exact ⟨none, 0, rfl, Nat.zero_le _, fun h0 => absurd h0 (by omega)⟩
  · refine ⟨_, _, rfl, Nat.le_trans hn hm, fun _ => ⟨g, rfl, fun j u hu => ?_⟩⟩
    have := hc g rfl j u hu
    rwa [show (⟨g, 0, none⟩ : Addr).add j = ⟨g, j, none⟩ by unfold Addr.add; split <;> simp_all] at this

/-! ### the cells of what is gathered -/
def kcells : List (ByteArray × ByteArray) → List Value
  | [] => []
  | p :: r => .string p.1 :: .string p.2 :: kcells r
def pcells (ps : List Nat) : List Value := ps.map fun p => .pointer (some ⟨p, 0, none⟩)
theorem kcells_snoc (ks : List (ByteArray × ByteArray)) (a b : ByteArray) : kcells (ks ++ [(a, b)]) = kcells ks ++ [.string a, .string b] := by
  induction ks with
  | nil => rfl
  | cons p r ih => simp [kcells, ih]
theorem kcells_at (ks : List (ByteArray × ByteArray)) : ∀ (i : Nat) (a b : ByteArray), ks[i]? = some (a, b) → (kcells ks)[i * 2]? = some (.string a) ∧ (kcells ks)[i * 2 + 1]? = some (.string b) := by
  induction ks with
  | nil => intro i a b h; simp at h
  | cons p r ih =>
    intro i a b h
    cases i with
    | zero => simp at h; subst h; exact ⟨rfl, rfl⟩
    | succ j =>
      have := ih j a b (by simpa using h)
      rw [show (j + 1) * 2 = j * 2 + 1 + 1 by omega]
      simpa [kcells] using this
theorem pcells_snoc (ps : List Nat) (p : Nat) : pcells (ps ++ [p]) = pcells ps ++ [.pointer (some ⟨p, 0, none⟩)] := by simp [pcells]
theorem pcells_at (ps : List Nat) (i p : Nat) (h : ps[i]? = some p) : (pcells ps)[i]? = some (.pointer (some ⟨p, 0, none⟩)) := by simp [pcells, h]

def holdCells (a b : ByteArray) : Array Value := #[.string a, .string b, .int .i64 0, .string ⟨#[]⟩]

/-- The state at a round's head, k rounds gone. -/
structure Inv (w wr : World) (k : Nat) (vk vp : Value) (ks : List (ByteArray × ByteArray)) (ps : List Nat) : Prop where
  below : Below w.heap.size w wr
  names : wr.heap[w.heap.size]? = some (.cells #[.string ⟨#[]⟩, .string ⟨#[97]⟩, .string ⟨#[98]⟩] 41)
  led : wr.heap[w.heap.size + 1 + 1]? = some (.cells #[.map (some (w.heap.size + 1)), .nilFunc] 38)
  len : ks.length = ps.length
  lek : ks.length ≤ k
  short : ∀ p ∈ ks, p.1.size ≤ 1 ∧ p.2.size ≤ 1
  hold : ∀ (i : Nat) a b p, ks[i]? = some (a, b) → ps[i]? = some p → wr.heap[p]? = some (.cells (holdCells a b) 33)
  keys : wr.ownsRow (w.heap.size + 3) 27 2 vk ks.length (kcells ks)
  ptrs : wr.ownsRow (w.heap.size + 3) 24 1 vp ps.length (pcells ps)
  map : ∃ D, wr.ownsMap Yba.prog 27 tokE (w.heap.size + 1) k D ∧ Maps.size D = ks.length ∧ (∀ a b : ByteArray, a.size ≤ 1 → b.size ≤ 1 → (a, b) ∉ ks → Maps.has D (kl a b) = false) ∧
    ∀ (i : Nat) a b p, ks[i]? = some (a, b) → ps[i]? = some p → at? D a b = .held (.pointer (some ⟨p, 0, none⟩))

theorem fit1 {a : ByteArray} (h : a.size ≤ 1) : a.size ≤ maxLen := Nat.le_trans h (by decide)

theorem inv_start (w : World) (W : World) (hW : W = ((w.alloc (.cells #[.string ⟨#[]⟩, .string ⟨#[97]⟩, .string ⟨#[98]⟩] 41)).alloc (.map #[] 0)).alloc (.cells #[.map (some (w.heap.size + 1)), .nilFunc] 38)) :
    Inv w W 0 (.slice none 0 0) (.slice none 0 0) [] [] := by
  subst hW
  have hs1 : (w.alloc (.cells #[.string ⟨#[]⟩, .string ⟨#[97]⟩, .string ⟨#[98]⟩] 41)).heap.size = w.heap.size + 1 := by simp
  have hs2 : ((w.alloc (.cells #[.string ⟨#[]⟩, .string ⟨#[97]⟩, .string ⟨#[98]⟩] 41)).alloc (.map #[] 0)).heap.size = w.heap.size + 1 + 1 := by simp
  refine ⟨(((Below.refl _ _).alloc (Nat.le_refl _) _).alloc (by simp) _).alloc (by simp; omega) _, ?_, ?_, rfl, Nat.le_refl _, by simp, by simp, World.ownsRow_nil _ _ _ _, World.ownsRow_nil _ _ _ _, ?_⟩
  · rw [Below.heap_alloc _ _ _ (by simp; omega), Below.heap_alloc _ _ _ (by simp)]
    exact heap_alloc_new w _
  · have := heap_alloc_new ((w.alloc (.cells #[.string ⟨#[]⟩, .string ⟨#[97]⟩, .string ⟨#[98]⟩] 41)).alloc (.map #[] 0)) (.cells #[.map (some (w.heap.size + 1)), .nilFunc] 38)
    rw [hs2] at this
    exact this
  · refine ⟨.map [], ?_, rfl, fun a b _ _ _ => rfl, by simp⟩
    have := World.ownsMap_made (H := Value) (w.alloc (.cells #[.string ⟨#[]⟩, .string ⟨#[97]⟩, .string ⟨#[98]⟩] 41)) Yba.prog 27 tokE
    rw [hs1] at this
    exact this.alloc _

section
variable {w wr w' : World} {k : Nat} {vk vp : Value} {ks : List (ByteArray × ByteArray)} {ps : List Nat}

theorem heap_lt {w : World} {b : Nat} {o : Obj} (h : w.heap[b]? = some o) : b < w.heap.size := (Array.getElem?_eq_some_iff.1 h).1

/-- New blocks, and nothing else: the state stays. -/
theorem Inv.kept (h : Inv w wr k vk vp ks ps) (hg : wr.grownBy w' none) : Inv w w' (k + 1) vk vp ks ps := by
  have hb : ∀ (b : Nat) (o : Obj), wr.heap[b]? = some o → w'.heap[b]? = some o := fun b o hb => (hg.block b (heap_lt hb) (by simp)).trans hb
  obtain ⟨D, hD, h1, h2, h3⟩ := h.map
  have hsz : w.heap.size ≤ wr.heap.size := h.below.size
  refine ⟨h.below.grown hg hsz (fun _ e => by cases e), hb _ _ h.names, hb _ _ h.led, h.len, Nat.le_succ_of_le h.lek, h.short, fun i a b p e1 e2 => hb _ _ (h.hold i a b p e1 e2), ?_, ?_,
    ⟨D, (hD.kept hg (by simp)).mono (Nat.le_succ _), h1, h2, h3⟩⟩
  · exact h.keys.kept hg (by cases vk.ownBlock <;> simp)
  · exact h.ptrs.kept hg (by cases vp.ownBlock <;> simp)

/-- A key that is not there yet: the ledger has made a holding, both slices have been appended to. -/
theorem Inv.grow (h : Inv w wr k vk vp ks ps) {D : DataW Value} (hD : wr.ownsMap Yba.prog 27 tokE (w.heap.size + 1) k D) (hs : Maps.size D = ks.length)
    (hno : ∀ a b : ByteArray, a.size ≤ 1 → b.size ≤ 1 → (a, b) ∉ ks → Maps.has D (kl a b) = false) (hyes : ∀ (i : Nat) a b p, ks[i]? = some (a, b) → ps[i]? = some p → at? D a b = .held (.pointer (some ⟨p, 0, none⟩)))
    {a b : ByteArray} (ha : a.size ≤ 1) (hb : b.size ≤ 1) (hnew : (a, b) ∉ ks) {p : Nat} {w1 w3 w5 : World} {vk' vp' : Value}
    (hown : w1.ownsMap Yba.prog 27 tokE (w.heap.size + 1) (k + 1) (D.put (kl a b) (.held (.pointer (some ⟨p, 0, none⟩)))))
    (hblk : w1.heap[p]? = some (.cells (holdCells a b) 33)) (hg : wr.grownBy w1 (some (w.heap.size + 1)))
    (hk : w3.ownsRow (w.heap.size + 3) 27 2 vk' (ks.length + 1) (kcells ks ++ [.string a, .string b])) (hg3 : (w1.alloc (.cells #[.string a, .string b] 27)).grownBy w3 vk.ownBlock)
    (hp : w5.ownsRow (w.heap.size + 3) 24 1 vp' (ps.length + 1) (pcells ps ++ [.pointer (some ⟨p, 0, none⟩)])) (hg5 : (w3.alloc (.cells #[.pointer (some ⟨p, 0, none⟩)] 24)).grownBy w5 vp.ownBlock) :
    Inv w w5 (k + 1) vk' vp' (ks ++ [(a, b)]) (ps ++ [p]) := by
  have hmb : ∃ es cl, wr.heap[w.heap.size + 1]? = some (.map es cl) := by obtain ⟨es, cl, e, _⟩ := hD; exact ⟨es, cl, e⟩
  obtain ⟨es, cl, hmb⟩ := hmb
  have hmb1 : ∃ es cl, w1.heap[w.heap.size + 1]? = some (.map es cl) := by obtain ⟨es, cl, e, _⟩ := hown; exact ⟨es, cl, e⟩
  obtain ⟨es1, cl1, hmb1⟩ := hmb1
  -- from wr to w1
  have b1 : ∀ (c : Nat) (o : Obj), wr.heap[c]? = some o → (∀ e l, o ≠ .map e l) → w1.heap[c]? = some o := fun c o hc ho => by
    refine (hg.block c (heap_lt hc) (fun e => ?_)).trans hc
    injection e with e
    rw [e, hmb] at hc
    injection hc with hc
    exact ho _ _ hc.symm
  have keys1 : w1.ownsRow (w.heap.size + 3) 27 2 vk ks.length (kcells ks) := h.keys.kept hg (Or.inr (fun e => row_ne_block h.keys hmb (fun _ _ e => by cases e) e.symm))
  have ptrs1 : w1.ownsRow (w.heap.size + 3) 24 1 vp ps.length (pcells ps) := h.ptrs.kept hg (Or.inr (fun e => row_ne_block h.ptrs hmb (fun _ _ e => by cases e) e.symm))
  -- on to w3: the keys' row alone
  have b3 : ∀ (c : Nat) (o : Obj), w1.heap[c]? = some o → (∀ x fr, o ≠ .cells x 27 fr) → w3.heap[c]? = some o := fun c o hc ho => by
    have hc2 : (w1.alloc (.cells #[.string a, .string b] 27)).heap[c]? = some o := (Below.heap_alloc _ _ _ (heap_lt hc)).trans hc
    exact (hg3.block c (heap_lt hc2) (row_ne_block keys1 hc ho)).trans hc2
  have ptrs3 : w3.ownsRow (w.heap.size + 3) 24 1 vp ps.length (pcells ps) := by
    refine (ptrs1.alloc _).kept hg3 ?_
    exact rows_apart ptrs1 keys1 (by decide)
  have map3 := (hown.alloc (.cells #[.string a, .string b] 27)).kept hg3 (row_ne_block keys1 hmb1 (fun _ _ e => by cases e))
  obtain ⟨es3, cl3, hmb3, _⟩ : ∃ es cl, w3.heap[w.heap.size + 1]? = some (.map es cl) ∧ True := by obtain ⟨es, cl, e, _⟩ := map3; exact ⟨es, cl, e, trivial⟩
  -- on to w5: the pointers' row alone
  have b5 : ∀ (c : Nat) (o : Obj), w3.heap[c]? = some o → (∀ x fr, o ≠ .cells x 24 fr) → w5.heap[c]? = some o := fun c o hc ho => by
    have hc2 : (w3.alloc (.cells #[.pointer (some ⟨p, 0, none⟩)] 24)).heap[c]? = some o := (Below.heap_alloc _ _ _ (heap_lt hc)).trans hc
    exact (hg5.block c (heap_lt hc2) (row_ne_block ptrs3 hc ho)).trans hc2
  have keys5 : w5.ownsRow (w.heap.size + 3) 27 2 vk' (ks.length + 1) (kcells ks ++ [.string a, .string b]) := by
    refine (hk.alloc _).kept hg5 ?_
    exact rows_apart hk ptrs3 (by decide)
  have map5 := (map3.alloc (.cells #[.pointer (some ⟨p, 0, none⟩)] 24)).kept hg5 (row_ne_block ptrs3 hmb3 (fun _ _ e => by cases e))
  have up : ∀ (c : Nat) (x : Array Value) (t : TypeId), wr.heap[c]? = some (.cells x t) → t ≠ 27 → t ≠ 24 → w5.heap[c]? = some (.cells x t) := fun c x t hc h1 h2 =>
    b5 _ _ (b3 _ _ (b1 _ _ hc (fun _ _ e => by cases e)) (fun _ _ e => by cases e; exact h1 rfl)) (fun _ _ e => by cases e; exact h2 rfl)
  have up1 : ∀ (c : Nat) (x : Array Value) (t : TypeId), w1.heap[c]? = some (.cells x t) → t ≠ 27 → t ≠ 24 → w5.heap[c]? = some (.cells x t) := fun c x t hc h1 h2 =>
    b5 _ _ (b3 _ _ hc (fun _ _ e => by cases e; exact h1 rfl)) (fun _ _ e => by cases e; exact h2 rfl)
  have hsz : w.heap.size ≤ wr.heap.size := h.below.size
  have hsz1 := hg.size
  have hsz3 := hg3.size
  have e1 : (w1.alloc (.cells #[.string a, .string b] 27)).heap.size = w1.heap.size + 1 := by simp
  have below5 : Below w.heap.size w w5 := by
    refine Below.grown (Below.alloc (Below.grown (Below.alloc (Below.grown h.below hg hsz (fun j e => ?_)) ?_ _) hg3 ?_ ?_) ?_ _) hg5 ?_ ?_
    · cases e; omega
    · omega
    · omega
    · intro j e; have := (keys1.lt j e).1; omega
    · omega
    · simp; omega
    · intro j e; have := (ptrs3.lt j e).1; omega
  have ha' := fit1 ha
  have hb' := fit1 hb
  refine ⟨below5, up _ _ _ h.names (by decide) (by decide), up _ _ _ h.led (by decide) (by decide), by simp [h.len], by simp; exact h.lek, ?_, ?_, by rw [kcells_snoc]; simpa using keys5, by rw [pcells_snoc]; simpa using hp,
    ⟨_, map5, ?_, ?_, ?_⟩⟩
  · intro q hq
    rcases List.mem_append.1 hq with hq | hq
    · exact h.short q hq
    · simp at hq; subst hq; exact ⟨ha, hb⟩
  · intro i c d q e1 e2
    by_cases hi : i < ks.length
    · rw [List.getElem?_append_left hi] at e1
      rw [List.getElem?_append_left (by rw [← h.len]; exact hi)] at e2
      exact up _ _ _ (h.hold i c d q e1 e2) (by decide) (by decide)
    · have hi' : i = ks.length := by
        have := (List.getElem?_eq_some_iff.1 e1).1
        simp at this; omega
      subst hi'
      rw [List.getElem?_append_right (Nat.le_refl _)] at e1
      rw [List.getElem?_append_right (by rw [h.len]; exact Nat.le_refl _)] at e2
      simp at e1
      simp [h.len] at e2
      obtain ⟨rfl, rfl⟩ := e1
      subst e2
      exact up1 _ _ _ hblk (by decide) (by decide)
  · rw [Maps.size_put (hD.tidy law), hno a b ha hb hnew, hs]; simp
  · intro c d hc hd hcd
    have hne : ¬ (c = a ∧ d = b) := fun e => hcd (by rw [e.1, e.2]; simp)
    rw [Maps.has_put_other (fun e => hne (kl_inj (fit1 hc) (fit1 hd) ha' hb' e))]
    exact hno c d hc hd (fun hm => hcd (List.mem_append_left _ hm))
  · intro i c d q e1 e2
    by_cases hi : i < ks.length
    · rw [List.getElem?_append_left hi] at e1
      rw [List.getElem?_append_left (by rw [← h.len]; exact hi)] at e2
      have hm : (c, d) ∈ ks := List.mem_of_getElem? e1
      have hne : ¬ (c = a ∧ d = b) := fun e => hnew (by rw [← e.1, ← e.2]; exact hm)
      have hsh := h.short _ hm
      rw [at_put_other ha' hb' (fit1 hsh.1) (fit1 hsh.2) hne]
      exact hyes i c d q e1 e2
    · have hi' : i = ks.length := by
        have := (List.getElem?_eq_some_iff.1 e1).1
        simp at this; omega
      subst hi'
      rw [List.getElem?_append_right (Nat.le_refl _)] at e1
      rw [List.getElem?_append_right (by rw [h.len]; exact Nat.le_refl _)] at e2
      simp at e1
      simp [h.len] at e2
      obtain ⟨rfl, rfl⟩ := e1
      subst e2
      exact at_put_same hD ha' hb' _
end
end Go.Proofs.Ybulkzrq.Ledger
