/-
  sortWords' dealing, the loop over one bucket: a word is taken from its next place and dealt until one of its own comes.
-/
import Derived.Test.YbulkzssDeal8
namespace Go.Proofs.Ybulkzss.W
open Go.RowKit Go.Sort Go.Proofs.Ybulkzss.Plain
set_option linter.unusedVariables false

/-- The state at the head of the loop over bucket b. -/
structure In7 (s a m b nb blk off : Nat) (D : Array Nat) (w wx : World) (E : Array Nat) (f : Nat → Nat) : Prop where
  part : Part s a m D E f
  row : Row w wx blk off E
  next : Arr wx nb f
  ends : Arr wx (nb + 1) (fun c => bel s (win D a m) (c + 1))
  done : ∀ c, c < b → f c = bel s (win D a m) (c + 1)

section
variable {s a m b nb blk off : Nat} {D : Array Nat} {w wx : World} {E Dk : Array Nat} {f : Nat → Nat} {y : Nat}
theorem set_self (E : Array Nat) (i : Nat) : E.setIfInBounds i E[i]! = E := by
  apply Array.ext_getElem?
  intro k
  rw [Array.getElem?_setIfInBounds]
  by_cases h : i = k
  · subst h
    by_cases h2 : i < E.size
    · rw [if_pos rfl, if_pos h2, getElem!_pos E i h2, Array.getElem?_eq_getElem h2]
    · rw [if_pos rfl, if_neg h2, Array.getElem?_eq_none (by omega)]
  · rw [if_neg h]
theorem In7.take (h : In7 s a m b nb blk off D w wx E f) (ho : f b < bel s (win D a m) (b + 1)) (n : Nat) : In8 s a m b nb blk off D w (wx.drewN n) E E f E[a + f b]! :=
  ⟨h.part, ho, (set_self E _).symm, h.part.perm.1, h.row.drewN n, h.next.drewN n, h.ends.drewN n, h.done⟩
theorem In8.finish (h : In8 s a m b nb blk off D w wx E Dk f y) (hm : a + m ≤ D.size) (hb : b < 256) (hk : key s y = b) (hnb : w.heap.size ≤ nb) (hblk : blk < w.heap.size) :
    In7 s a m b nb blk off D w ((wx.setCell ⟨blk, off + a + f b, none⟩ (.int .u64 (y : Int))).setCell ⟨nb, b, none⟩ (.int .i64 ((f b : Int) + 1))) E (upd f b (f b + 1)) ∧ left s a m D (upd f b (f b + 1)) < left s a m D f := by
  have hy := hand_at h hm hb
  have ho := h.open_
  have hbb := bel_le s (win D a m) (show b + 1 ≤ 256 by omega)
  rw [win_length D a m hm] at hbb
  refine ⟨⟨h.part.stay hb h.open_ (by rw [hy]; exact hk), ?_, ?_, ?_, ?_⟩, left_step h.part hb h.open_⟩
  · rw [h.hand, Nat.add_assoc]
    exact (h.row.set (by rw [h.size]; omega) y).other hnb _
  · rw [show ((f b : Int) + 1) = ((f b + 1 : Nat) : Int) by omega]
    exact (h.next.other (by simp; omega) _).set _ _
  · exact (h.ends.other (by simp; omega) _).other (by simp) _
  · intro x hx
    rw [upd_other _ _ _ _ (by omega)]; exact h.done x hx
end

theorem key_int' (s y : Nat) : ((y : Nat) : Int) / 2 ^ s % 256 = ((key s y : Nat) : Int) := by
  unfold key
  rw [show (256 : Int) = ((256 : Nat) : Int) from rfl, show ((2 : Int) ^ s) = ((2 ^ s : Nat) : Int) from (Int.natCast_pow 2 s).symm, ← Int.natCast_ediv, ← Int.natCast_emod]

set_option maxRecDepth 1000000 in
set_option maxHeartbeats 1000000 in
theorem go7 (K : Act → World → Prop) (Q : Exit → Act → World → Prop) (blk off cap a m s b nb : Nat) (D : Array Nat) (w : World) (hH : Box (Holds encW w blk off D)) (hm : a + m ≤ D.size) (hbig : m ≤ 1048576) (hs56 : s ≤ 56) (hb256 : b < 256) (hnb : w.heap.size ≤ nb) (hblk : blk < w.heap.size)
    (E : Array Nat) (f : Nat → Nat) (p z y0 : Nat) (wr : World) (c4 c6 c8 c10 c13 c14 c15 c22 c23 c24 c64 c65 c66 c67 c68 c69 c70 c71 c72 c73 c74 c75 c76 c77 c78 c79 c80 c81 c82 c83 c84 c85 c86 c87 c88 c89 c90 c91 c92 c93 c94 c95 c96 c97 c98 c99 c100 c101 c102 c103 c104 c105 c106 c107 c108 c109 c110 c111 c112 c113 c114 c168 u17 u18 u115 u116 u117 u118 u119 u120 u121 u122 u123 u124 u125 u126 u127 u128 u129 u130 u131 u132 u133 u134 u135 u136 u137 u138 u139 u140 u141 u142 u143 u144 u145 u146 u147 u148 u149 u150 u151 u152 u153 u154 u155 u156 u157 u158 u159 u160 u161 u162 u163 u164 u165 u166 u167 : Value) (hpz : p < z) (hzm : z ≤ m)
    (h8 : Box (In8 s a m b nb blk off D w (wr.drewN 1) E E f y0))
    (g1 : wr.cell? ⟨nb, b, none⟩ = some (.int .i64 (p : Int))) (g3 : wr.cell? ⟨nb + 1, b, none⟩ = some (.int .i64 (z : Int))) (g5 : wr.cell? ⟨blk, off + a + p, none⟩ = some (.int .u64 (y0 : Int))) (hy0 : Box (∀ t : Int, t = (y0 : Int) / 2 ^ s % 256 → t = (key s y0 : Int)))
    (hK : Box (∀ (E' : Array Nat) (f' : Nat → Nat) (wx : World) (v17 v18 v115 v116 v117 v118 v119 v120 v121 v122 v123 v124 v125 v126 v127 v128 v129 v130 v131 v132 v133 v134 v135 v136 v137 v138 v139 v140 v141 v142 v143 v144 v145 v146 v147 v148 v149 v150 v151 v152 v153 v154 v155 v156 v157 v158 v159 v160 v161 v162 v163 v164 v165 v166 v167 : Value), In7 s a m b nb blk off D w wx E' f' → left s a m D f' < left s a m D f → K ⟨List.toArray ((.slice (some ⟨blk, off + a, none⟩) m cap) :: undef :: undef :: undef :: c4 :: undef :: c6 :: (.int .i64 (s : Int)) :: c8 :: undef :: c10 :: (.pointer (some ⟨nb, 0, none⟩)) :: (.pointer (some ⟨nb + 1, 0, none⟩)) :: c13 :: c14 :: c15 :: (.int .i64 (b : Int)) :: v17 :: v18 :: undef :: undef :: undef :: c22 :: c23 :: c24 :: undef :: undef :: undef :: undef :: undef :: undef :: undef :: undef :: undef :: undef :: undef :: undef :: undef :: undef :: undef :: undef :: undef :: undef :: undef :: undef :: undef :: undef :: undef :: undef :: undef :: undef :: undef :: undef :: undef :: undef :: undef :: undef :: undef :: undef :: undef :: undef :: undef :: undef :: undef :: c64 :: c65 :: c66 :: c67 :: c68 :: c69 :: c70 :: c71 :: c72 :: c73 :: c74 :: c75 :: c76 :: c77 :: c78 :: c79 :: c80 :: c81 :: c82 :: c83 :: c84 :: c85 :: c86 :: c87 :: c88 :: c89 :: c90 :: c91 :: c92 :: c93 :: c94 :: c95 :: c96 :: c97 :: c98 :: c99 :: c100 :: c101 :: c102 :: c103 :: c104 :: c105 :: c106 :: c107 :: c108 :: c109 :: c110 :: c111 :: c112 :: c113 :: c114 :: v115 :: v116 :: v117 :: v118 :: v119 :: v120 :: v121 :: v122 :: v123 :: v124 :: v125 :: v126 :: v127 :: v128 :: v129 :: v130 :: v131 :: v132 :: v133 :: v134 :: v135 :: v136 :: v137 :: v138 :: v139 :: v140 :: v141 :: v142 :: v143 :: v144 :: v145 :: v146 :: v147 :: v148 :: v149 :: v150 :: v151 :: v152 :: v153 :: v154 :: v155 :: v156 :: v157 :: v158 :: v159 :: v160 :: v161 :: v162 :: v163 :: v164 :: v165 :: v166 :: v167 :: c168 :: undef :: undef :: undef :: undef :: undef :: undef :: undef :: undef :: undef :: undef :: undef :: undef :: undef :: undef :: undef :: []), []⟩ wx)) :
    Code.wp Yba.prog (inner (pick Yba.f7.body 4) 0) (Exit.then K Q) ⟨List.toArray ((.slice (some ⟨blk, off + a, none⟩) m cap) :: undef :: undef :: undef :: c4 :: undef :: c6 :: (.int .i64 (s : Int)) :: c8 :: undef :: c10 :: (.pointer (some ⟨nb, 0, none⟩)) :: (.pointer (some ⟨nb + 1, 0, none⟩)) :: c13 :: c14 :: c15 :: (.int .i64 (b : Int)) :: u17 :: u18 :: undef :: undef :: undef :: c22 :: c23 :: c24 :: undef :: undef :: undef :: undef :: undef :: undef :: undef :: undef :: undef :: undef :: undef :: undef :: undef :: undef :: undef :: undef :: undef :: undef :: undef :: undef :: undef :: undef :: undef :: undef :: undef :: undef :: undef :: undef :: undef :: undef :: undef :: undef :: undef :: undef :: undef :: undef :: undef :: undef :: undef :: c64 :: c65 :: c66 :: c67 :: c68 :: c69 :: c70 :: c71 :: c72 :: c73 :: c74 :: c75 :: c76 :: c77 :: c78 :: c79 :: c80 :: c81 :: c82 :: c83 :: c84 :: c85 :: c86 :: c87 :: c88 :: c89 :: c90 :: c91 :: c92 :: c93 :: c94 :: c95 :: c96 :: c97 :: c98 :: c99 :: c100 :: c101 :: c102 :: c103 :: c104 :: c105 :: c106 :: c107 :: c108 :: c109 :: c110 :: c111 :: c112 :: c113 :: c114 :: u115 :: u116 :: u117 :: u118 :: u119 :: u120 :: u121 :: u122 :: u123 :: u124 :: u125 :: u126 :: u127 :: u128 :: u129 :: u130 :: u131 :: u132 :: u133 :: u134 :: u135 :: u136 :: u137 :: u138 :: u139 :: u140 :: u141 :: u142 :: u143 :: u144 :: u145 :: u146 :: u147 :: u148 :: u149 :: u150 :: u151 :: u152 :: u153 :: u154 :: u155 :: u156 :: u157 :: u158 :: u159 :: u160 :: u161 :: u162 :: u163 :: u164 :: u165 :: u166 :: u167 :: c168 :: undef :: undef :: undef :: undef :: undef :: undef :: undef :: undef :: undef :: undef :: undef :: undef :: undef :: undef :: undef :: []), []⟩ wr := by
  conv => arg 2; whnf
  repeat (first | go_values | go_skip | go_guarded | go_step | go_upon | go_back)
  as_aux_lemma =>
    go_region
    as_aux_lemma =>
      repeat (first | go_values | go_skip | go_guarded | go_step | go_upon | go_back)
      rw [hy0.out _ rfl]
      refine loop8 _ blk off cap a m s b nb D w hH.out hm hbig hs56 hb256 hnb E E f y0 _ _ _ _ _ _ _ _ _ _ _ _ _ _ _ _ _ _ _ _ _ _ _ _ _ _ _ _ _ _ _ _ _ _ _ _ _ _ _ _ _ _ _ _ _ _ _ _ _ _ _ _ _ _ _ _ _ _ _ _ _ _ _ _ _ _ _ _ _ _ _ _ _ _ _ _ _ _ _ _ _ _ _ _ _ _ _ _ _ _ _ _ _ _ _ _ _ _ _ _ _ _ _ _ _ _ _ _ _ _ _ _ _ _ _ _ h8.out ?_
      clear h8 g1 g3 g5 hy0 hpz hzm
      intro E' Dk' f' y' wx v132 v133 v134 v135 v136 v137 v138 v139 v140 v141 v142 v143 v144 v145 v146 v147 v148 v149 v150 v151 v152 v153 v154 v155 v156 hI hk hl
      have hfin := hI.finish hm hb256 hk hnb hblk
      have hopen := hI.open_
      have hbb := bel_le s (win D a m) (show b + 1 ≤ 256 by omega)
      rw [win_length D a m hm] at hbb
      have q1 := hI.next.cell hb256
      have q2 := hI.next.frozen b
      have q3 : wx.cell? ⟨blk, off + a + f' b, none⟩ = some (.int .u64 ((Dk'[a + f' b]! : Nat) : Int)) := by rw [Nat.add_assoc]; exact hI.row.cell hH.out hI.size (by omega)
      have q4 : wx.frozen? ⟨blk, off + a + f' b, none⟩ = false := by rw [Nat.add_assoc]; exact hI.row.frozen hH.out (by omega)
      obtain ⟨p', hp'⟩ : ∃ p', f' b = p' := ⟨_, rfl⟩
      rw [hp'] at q1 q3 q4 hfin
      have hpm : p' < m := by omega
      obtain ⟨y9, hy9⟩ : ∃ y9, Dk'[a + p']! = y9 := ⟨_, rfl⟩
      rw [hy9] at q3
      have HF := Box.mk hfin
      have HL := Box.mk hl
      have hne : ¬ nb = blk := by omega
      have hne' : ¬ blk = nb := by omega
      clear hI hopen hbb hk hp' hy9 hfin hl
      as_aux_lemma =>
        repeat (first | go_values | go_skip | go_guarded | go_step | go_upon | go_back)
        exact hK.out _ _ _ _ _ _ _ _ _ _ _ _ _ _ _ _ _ _ _ _ _ _ _ _ _ _ _ _ _ _ _ _ _ _ _ _ _ _ _ _ _ _ _ _ _ _ _ _ _ _ _ _ _ _ _ _ _ _ HF.out.1 (Nat.lt_of_lt_of_le HF.out.2 HL.out)

set_option maxRecDepth 1000000 in
set_option maxHeartbeats 1000000 in
theorem out7 (K : Act → World → Prop) (Q : Exit → Act → World → Prop) (blk off cap a m s b nb p z : Nat) (wr : World) (c4 c6 c8 c10 c13 c14 c15 c22 c23 c24 c64 c65 c66 c67 c68 c69 c70 c71 c72 c73 c74 c75 c76 c77 c78 c79 c80 c81 c82 c83 c84 c85 c86 c87 c88 c89 c90 c91 c92 c93 c94 c95 c96 c97 c98 c99 c100 c101 c102 c103 c104 c105 c106 c107 c108 c109 c110 c111 c112 c113 c114 c168 u17 u18 u115 u116 u117 u118 u119 u120 u121 u122 u123 u124 u125 u126 u127 u128 u129 u130 u131 u132 u133 u134 u135 u136 u137 u138 u139 u140 u141 u142 u143 u144 u145 u146 u147 u148 u149 u150 u151 u152 u153 u154 u155 u156 u157 u158 u159 u160 u161 u162 u163 u164 u165 u166 u167 : Value) (hb256 : b < 256) (hpz : ¬ p < z) (hzm : z ≤ m) (hpm : p ≤ m) (hbig : m ≤ 1048576)
    (g1 : wr.cell? ⟨nb, b, none⟩ = some (.int .i64 (p : Int))) (g3 : wr.cell? ⟨nb + 1, b, none⟩ = some (.int .i64 (z : Int)))
    (hX : Box (∀ (v115 v116 v117 v118 v119 v120 v121 : Value), Q (.exit 12) ⟨List.toArray ((.slice (some ⟨blk, off + a, none⟩) m cap) :: undef :: undef :: undef :: c4 :: undef :: c6 :: (.int .i64 (s : Int)) :: c8 :: undef :: c10 :: (.pointer (some ⟨nb, 0, none⟩)) :: (.pointer (some ⟨nb + 1, 0, none⟩)) :: c13 :: c14 :: c15 :: (.int .i64 (b : Int)) :: u17 :: u18 :: undef :: undef :: undef :: c22 :: c23 :: c24 :: undef :: undef :: undef :: undef :: undef :: undef :: undef :: undef :: undef :: undef :: undef :: undef :: undef :: undef :: undef :: undef :: undef :: undef :: undef :: undef :: undef :: undef :: undef :: undef :: undef :: undef :: undef :: undef :: undef :: undef :: undef :: undef :: undef :: undef :: undef :: undef :: undef :: undef :: undef :: c64 :: c65 :: c66 :: c67 :: c68 :: c69 :: c70 :: c71 :: c72 :: c73 :: c74 :: c75 :: c76 :: c77 :: c78 :: c79 :: c80 :: c81 :: c82 :: c83 :: c84 :: c85 :: c86 :: c87 :: c88 :: c89 :: c90 :: c91 :: c92 :: c93 :: c94 :: c95 :: c96 :: c97 :: c98 :: c99 :: c100 :: c101 :: c102 :: c103 :: c104 :: c105 :: c106 :: c107 :: c108 :: c109 :: c110 :: c111 :: c112 :: c113 :: c114 :: v115 :: v116 :: v117 :: v118 :: v119 :: v120 :: v121 :: u122 :: u123 :: u124 :: u125 :: u126 :: u127 :: u128 :: u129 :: u130 :: u131 :: u132 :: u133 :: u134 :: u135 :: u136 :: u137 :: u138 :: u139 :: u140 :: u141 :: u142 :: u143 :: u144 :: u145 :: u146 :: u147 :: u148 :: u149 :: u150 :: u151 :: u152 :: u153 :: u154 :: u155 :: u156 :: u157 :: u158 :: u159 :: u160 :: u161 :: u162 :: u163 :: u164 :: u165 :: u166 :: u167 :: c168 :: undef :: undef :: undef :: undef :: undef :: undef :: undef :: undef :: undef :: undef :: undef :: undef :: undef :: undef :: undef :: []), []⟩ (wr.drewN 1))) :
    Code.wp Yba.prog (inner (pick Yba.f7.body 4) 0) (Exit.then K Q) ⟨List.toArray ((.slice (some ⟨blk, off + a, none⟩) m cap) :: undef :: undef :: undef :: c4 :: undef :: c6 :: (.int .i64 (s : Int)) :: c8 :: undef :: c10 :: (.pointer (some ⟨nb, 0, none⟩)) :: (.pointer (some ⟨nb + 1, 0, none⟩)) :: c13 :: c14 :: c15 :: (.int .i64 (b : Int)) :: u17 :: u18 :: undef :: undef :: undef :: c22 :: c23 :: c24 :: undef :: undef :: undef :: undef :: undef :: undef :: undef :: undef :: undef :: undef :: undef :: undef :: undef :: undef :: undef :: undef :: undef :: undef :: undef :: undef :: undef :: undef :: undef :: undef :: undef :: undef :: undef :: undef :: undef :: undef :: undef :: undef :: undef :: undef :: undef :: undef :: undef :: undef :: undef :: c64 :: c65 :: c66 :: c67 :: c68 :: c69 :: c70 :: c71 :: c72 :: c73 :: c74 :: c75 :: c76 :: c77 :: c78 :: c79 :: c80 :: c81 :: c82 :: c83 :: c84 :: c85 :: c86 :: c87 :: c88 :: c89 :: c90 :: c91 :: c92 :: c93 :: c94 :: c95 :: c96 :: c97 :: c98 :: c99 :: c100 :: c101 :: c102 :: c103 :: c104 :: c105 :: c106 :: c107 :: c108 :: c109 :: c110 :: c111 :: c112 :: c113 :: c114 :: u115 :: u116 :: u117 :: u118 :: u119 :: u120 :: u121 :: u122 :: u123 :: u124 :: u125 :: u126 :: u127 :: u128 :: u129 :: u130 :: u131 :: u132 :: u133 :: u134 :: u135 :: u136 :: u137 :: u138 :: u139 :: u140 :: u141 :: u142 :: u143 :: u144 :: u145 :: u146 :: u147 :: u148 :: u149 :: u150 :: u151 :: u152 :: u153 :: u154 :: u155 :: u156 :: u157 :: u158 :: u159 :: u160 :: u161 :: u162 :: u163 :: u164 :: u165 :: u166 :: u167 :: c168 :: undef :: undef :: undef :: undef :: undef :: undef :: undef :: undef :: undef :: undef :: undef :: undef :: undef :: undef :: undef :: []), []⟩ wr := by
  conv => arg 2; whnf
  repeat (first | go_values | go_skip | go_guarded | go_step | go_upon | go_back)
  as_aux_lemma =>
    go_region
    as_aux_lemma =>
      repeat (first | go_values | go_skip | go_guarded | go_step | go_upon | go_back)
      exact hX.out _ _ _ _ _ _ _

set_option maxRecDepth 1000000 in
set_option maxHeartbeats 1000000 in
theorem loop7 (Q : Exit → Act → World → Prop) (blk off cap a m s b nb : Nat) (D : Array Nat) (w : World) (hH : Holds encW w blk off D) (hm : a + m ≤ D.size) (hbig : m ≤ 1048576) (hs56 : s ≤ 56) (hb256 : b < 256) (hnb : w.heap.size ≤ nb) (hblk : blk < w.heap.size)
    (E : Array Nat) (f : Nat → Nat) (wr : World) (c4 c6 c8 c10 c13 c14 c15 c22 c23 c24 c64 c65 c66 c67 c68 c69 c70 c71 c72 c73 c74 c75 c76 c77 c78 c79 c80 c81 c82 c83 c84 c85 c86 c87 c88 c89 c90 c91 c92 c93 c94 c95 c96 c97 c98 c99 c100 c101 c102 c103 c104 c105 c106 c107 c108 c109 c110 c111 c112 c113 c114 c168 u17 u18 u115 u116 u117 u118 u119 u120 u121 u122 u123 u124 u125 u126 u127 u128 u129 u130 u131 u132 u133 u134 u135 u136 u137 u138 u139 u140 u141 u142 u143 u144 u145 u146 u147 u148 u149 u150 u151 u152 u153 u154 u155 u156 u157 u158 u159 u160 u161 u162 u163 u164 u165 u166 u167 : Value)
    (hI : In7 s a m b nb blk off D w wr E f)
    (hexit : ∀ (E : Array Nat) (f' : Nat → Nat) (wx : World) (u17 u18 u115 u116 u117 u118 u119 u120 u121 u122 u123 u124 u125 u126 u127 u128 u129 u130 u131 u132 u133 u134 u135 u136 u137 u138 u139 u140 u141 u142 u143 u144 u145 u146 u147 u148 u149 u150 u151 u152 u153 u154 u155 u156 u157 u158 u159 u160 u161 u162 u163 u164 u165 u166 u167 : Value), In7 s a m b nb blk off D w wx E f' → f' b = bel s (win D a m) (b + 1) →
      Q (.exit 12) ⟨List.toArray ((.slice (some ⟨blk, off + a, none⟩) m cap) :: undef :: undef :: undef :: c4 :: undef :: c6 :: (.int .i64 (s : Int)) :: c8 :: undef :: c10 :: (.pointer (some ⟨nb, 0, none⟩)) :: (.pointer (some ⟨nb + 1, 0, none⟩)) :: c13 :: c14 :: c15 :: (.int .i64 (b : Int)) :: u17 :: u18 :: undef :: undef :: undef :: c22 :: c23 :: c24 :: undef :: undef :: undef :: undef :: undef :: undef :: undef :: undef :: undef :: undef :: undef :: undef :: undef :: undef :: undef :: undef :: undef :: undef :: undef :: undef :: undef :: undef :: undef :: undef :: undef :: undef :: undef :: undef :: undef :: undef :: undef :: undef :: undef :: undef :: undef :: undef :: undef :: undef :: undef :: c64 :: c65 :: c66 :: c67 :: c68 :: c69 :: c70 :: c71 :: c72 :: c73 :: c74 :: c75 :: c76 :: c77 :: c78 :: c79 :: c80 :: c81 :: c82 :: c83 :: c84 :: c85 :: c86 :: c87 :: c88 :: c89 :: c90 :: c91 :: c92 :: c93 :: c94 :: c95 :: c96 :: c97 :: c98 :: c99 :: c100 :: c101 :: c102 :: c103 :: c104 :: c105 :: c106 :: c107 :: c108 :: c109 :: c110 :: c111 :: c112 :: c113 :: c114 :: u115 :: u116 :: u117 :: u118 :: u119 :: u120 :: u121 :: u122 :: u123 :: u124 :: u125 :: u126 :: u127 :: u128 :: u129 :: u130 :: u131 :: u132 :: u133 :: u134 :: u135 :: u136 :: u137 :: u138 :: u139 :: u140 :: u141 :: u142 :: u143 :: u144 :: u145 :: u146 :: u147 :: u148 :: u149 :: u150 :: u151 :: u152 :: u153 :: u154 :: u155 :: u156 :: u157 :: u158 :: u159 :: u160 :: u161 :: u162 :: u163 :: u164 :: u165 :: u166 :: u167 :: c168 :: undef :: undef :: undef :: undef :: undef :: undef :: undef :: undef :: undef :: undef :: undef :: undef :: undef :: undef :: undef :: []), []⟩ wx) :
    Code.wp Yba.prog (Code.loop (inner (pick Yba.f7.body 4) 0)) Q ⟨List.toArray ((.slice (some ⟨blk, off + a, none⟩) m cap) :: undef :: undef :: undef :: c4 :: undef :: c6 :: (.int .i64 (s : Int)) :: c8 :: undef :: c10 :: (.pointer (some ⟨nb, 0, none⟩)) :: (.pointer (some ⟨nb + 1, 0, none⟩)) :: c13 :: c14 :: c15 :: (.int .i64 (b : Int)) :: u17 :: u18 :: undef :: undef :: undef :: c22 :: c23 :: c24 :: undef :: undef :: undef :: undef :: undef :: undef :: undef :: undef :: undef :: undef :: undef :: undef :: undef :: undef :: undef :: undef :: undef :: undef :: undef :: undef :: undef :: undef :: undef :: undef :: undef :: undef :: undef :: undef :: undef :: undef :: undef :: undef :: undef :: undef :: undef :: undef :: undef :: undef :: undef :: c64 :: c65 :: c66 :: c67 :: c68 :: c69 :: c70 :: c71 :: c72 :: c73 :: c74 :: c75 :: c76 :: c77 :: c78 :: c79 :: c80 :: c81 :: c82 :: c83 :: c84 :: c85 :: c86 :: c87 :: c88 :: c89 :: c90 :: c91 :: c92 :: c93 :: c94 :: c95 :: c96 :: c97 :: c98 :: c99 :: c100 :: c101 :: c102 :: c103 :: c104 :: c105 :: c106 :: c107 :: c108 :: c109 :: c110 :: c111 :: c112 :: c113 :: c114 :: u115 :: u116 :: u117 :: u118 :: u119 :: u120 :: u121 :: u122 :: u123 :: u124 :: u125 :: u126 :: u127 :: u128 :: u129 :: u130 :: u131 :: u132 :: u133 :: u134 :: u135 :: u136 :: u137 :: u138 :: u139 :: u140 :: u141 :: u142 :: u143 :: u144 :: u145 :: u146 :: u147 :: u148 :: u149 :: u150 :: u151 :: u152 :: u153 :: u154 :: u155 :: u156 :: u157 :: u158 :: u159 :: u160 :: u161 :: u162 :: u163 :: u164 :: u165 :: u166 :: u167 :: c168 :: undef :: undef :: undef :: undef :: undef :: undef :: undef :: undef :: undef :: undef :: undef :: undef :: undef :: undef :: undef :: []), []⟩ wr := by
  refine wp_loop_ghost (fun k a' wx => ∃ (E : Array Nat) (f' : Nat → Nat) (u17 u18 u115 u116 u117 u118 u119 u120 u121 u122 u123 u124 u125 u126 u127 u128 u129 u130 u131 u132 u133 u134 u135 u136 u137 u138 u139 u140 u141 u142 u143 u144 u145 u146 u147 u148 u149 u150 u151 u152 u153 u154 u155 u156 u157 u158 u159 u160 u161 u162 u163 u164 u165 u166 u167 : Value), In7 s a m b nb blk off D w wx E f' ∧ left s a m D f' ≤ k ∧ a' = ⟨List.toArray ((.slice (some ⟨blk, off + a, none⟩) m cap) :: undef :: undef :: undef :: c4 :: undef :: c6 :: (.int .i64 (s : Int)) :: c8 :: undef :: c10 :: (.pointer (some ⟨nb, 0, none⟩)) :: (.pointer (some ⟨nb + 1, 0, none⟩)) :: c13 :: c14 :: c15 :: (.int .i64 (b : Int)) :: u17 :: u18 :: undef :: undef :: undef :: c22 :: c23 :: c24 :: undef :: undef :: undef :: undef :: undef :: undef :: undef :: undef :: undef :: undef :: undef :: undef :: undef :: undef :: undef :: undef :: undef :: undef :: undef :: undef :: undef :: undef :: undef :: undef :: undef :: undef :: undef :: undef :: undef :: undef :: undef :: undef :: undef :: undef :: undef :: undef :: undef :: undef :: undef :: c64 :: c65 :: c66 :: c67 :: c68 :: c69 :: c70 :: c71 :: c72 :: c73 :: c74 :: c75 :: c76 :: c77 :: c78 :: c79 :: c80 :: c81 :: c82 :: c83 :: c84 :: c85 :: c86 :: c87 :: c88 :: c89 :: c90 :: c91 :: c92 :: c93 :: c94 :: c95 :: c96 :: c97 :: c98 :: c99 :: c100 :: c101 :: c102 :: c103 :: c104 :: c105 :: c106 :: c107 :: c108 :: c109 :: c110 :: c111 :: c112 :: c113 :: c114 :: u115 :: u116 :: u117 :: u118 :: u119 :: u120 :: u121 :: u122 :: u123 :: u124 :: u125 :: u126 :: u127 :: u128 :: u129 :: u130 :: u131 :: u132 :: u133 :: u134 :: u135 :: u136 :: u137 :: u138 :: u139 :: u140 :: u141 :: u142 :: u143 :: u144 :: u145 :: u146 :: u147 :: u148 :: u149 :: u150 :: u151 :: u152 :: u153 :: u154 :: u155 :: u156 :: u157 :: u158 :: u159 :: u160 :: u161 :: u162 :: u163 :: u164 :: u165 :: u166 :: u167 :: c168 :: undef :: undef :: undef :: undef :: undef :: undef :: undef :: undef :: undef :: undef :: undef :: undef :: undef :: undef :: undef :: []), []⟩) (left s a m D f) ⟨E, f, u17, u18, u115, u116, u117, u118, u119, u120, u121, u122, u123, u124, u125, u126, u127, u128, u129, u130, u131, u132, u133, u134, u135, u136, u137, u138, u139, u140, u141, u142, u143, u144, u145, u146, u147, u148, u149, u150, u151, u152, u153, u154, u155, u156, u157, u158, u159, u160, u161, u162, u163, u164, u165, u166, u167, hI, Nat.le_refl _, rfl⟩ ?_
  intro n a' wx hinv
  obtain ⟨E, hinv⟩ := hinv
  obtain ⟨f', hinv⟩ := hinv
  obtain ⟨u17, hinv⟩ := hinv
  obtain ⟨u18, hinv⟩ := hinv
  obtain ⟨u115, hinv⟩ := hinv
  obtain ⟨u116, hinv⟩ := hinv
  obtain ⟨u117, hinv⟩ := hinv
  obtain ⟨u118, hinv⟩ := hinv
  obtain ⟨u119, hinv⟩ := hinv
  obtain ⟨u120, hinv⟩ := hinv
  obtain ⟨u121, hinv⟩ := hinv
  obtain ⟨u122, hinv⟩ := hinv
  obtain ⟨u123, hinv⟩ := hinv
  obtain ⟨u124, hinv⟩ := hinv
  obtain ⟨u125, hinv⟩ := hinv
  obtain ⟨u126, hinv⟩ := hinv
  obtain ⟨u127, hinv⟩ := hinv
  obtain ⟨u128, hinv⟩ := hinv
  obtain ⟨u129, hinv⟩ := hinv
  obtain ⟨u130, hinv⟩ := hinv
  obtain ⟨u131, hinv⟩ := hinv
  obtain ⟨u132, hinv⟩ := hinv
  obtain ⟨u133, hinv⟩ := hinv
  obtain ⟨u134, hinv⟩ := hinv
  obtain ⟨u135, hinv⟩ := hinv
  obtain ⟨u136, hinv⟩ := hinv
  obtain ⟨u137, hinv⟩ := hinv
  obtain ⟨u138, hinv⟩ := hinv
  obtain ⟨u139, hinv⟩ := hinv
  obtain ⟨u140, hinv⟩ := hinv
  obtain ⟨u141, hinv⟩ := hinv
  obtain ⟨u142, hinv⟩ := hinv
  obtain ⟨u143, hinv⟩ := hinv
  obtain ⟨u144, hinv⟩ := hinv
  obtain ⟨u145, hinv⟩ := hinv
  obtain ⟨u146, hinv⟩ := hinv
  obtain ⟨u147, hinv⟩ := hinv
  obtain ⟨u148, hinv⟩ := hinv
  obtain ⟨u149, hinv⟩ := hinv
  obtain ⟨u150, hinv⟩ := hinv
  obtain ⟨u151, hinv⟩ := hinv
  obtain ⟨u152, hinv⟩ := hinv
  obtain ⟨u153, hinv⟩ := hinv
  obtain ⟨u154, hinv⟩ := hinv
  obtain ⟨u155, hinv⟩ := hinv
  obtain ⟨u156, hinv⟩ := hinv
  obtain ⟨u157, hinv⟩ := hinv
  obtain ⟨u158, hinv⟩ := hinv
  obtain ⟨u159, hinv⟩ := hinv
  obtain ⟨u160, hinv⟩ := hinv
  obtain ⟨u161, hinv⟩ := hinv
  obtain ⟨u162, hinv⟩ := hinv
  obtain ⟨u163, hinv⟩ := hinv
  obtain ⟨u164, hinv⟩ := hinv
  obtain ⟨u165, hinv⟩ := hinv
  obtain ⟨u166, hinv⟩ := hinv
  obtain ⟨u167, hinv⟩ := hinv
  obtain ⟨hI, hgk, ha⟩ := hinv
  rw [ha]
  have hbb := bel_le s (win D a m) (show b + 1 ≤ 256 by omega)
  rw [win_length D a m hm] at hbb
  have hhi := hI.part.hi b hb256
  by_cases ho : f' b < bel s (win D a m) (b + 1)
  · refine go7 _ Q blk off cap a m s b nb D w ⟨hH⟩ hm hbig hs56 hb256 hnb hblk E f' (f' b) (bel s (win D a m) (b + 1)) E[a + f' b]! wx _ _ _ _ _ _ _ _ _ _ _ _ _ _ _ _ _ _ _ _ _ _ _ _ _ _ _ _ _ _ _ _ _ _ _ _ _ _ _ _ _ _ _ _ _ _ _ _ _ _ _ _ _ _ _ _ _ _ _ _ _ _ _ _ _ _ _ _ _ _ _ _ _ _ _ _ _ _ _ _ _ _ _ _ _ _ _ _ _ _ _ _ _ _ _ _ _ _ _ _ _ _ _ _ _ _ _ _ _ _ _ _ _ _ _ _ _ ho hbb ⟨hI.take ho 1⟩
      (hI.next.cell hb256) (hI.ends.cell hb256) (by rw [Nat.add_assoc]; exact hI.row.cell hH hI.part.perm.1 (by omega)) ⟨fun t ht => by rw [ht]; exact key_int' s _⟩ ⟨fun E' f'' wx' v17 v18 v115 v116 v117 v118 v119 v120 v121 v122 v123 v124 v125 v126 v127 v128 v129 v130 v131 v132 v133 v134 v135 v136 v137 v138 v139 v140 v141 v142 v143 v144 v145 v146 v147 v148 v149 v150 v151 v152 v153 v154 v155 v156 v157 v158 v159 v160 v161 v162 v163 v164 v165 v166 v167 h7 hl => ?_⟩
    exact ⟨_, Nat.lt_of_lt_of_le hl hgk, _, _, v17, v18, v115, v116, v117, v118, v119, v120, v121, v122, v123, v124, v125, v126, v127, v128, v129, v130, v131, v132, v133, v134, v135, v136, v137, v138, v139, v140, v141, v142, v143, v144, v145, v146, v147, v148, v149, v150, v151, v152, v153, v154, v155, v156, v157, v158, v159, v160, v161, v162, v163, v164, v165, v166, v167, h7, Nat.le_refl _, rfl⟩
  · refine out7 _ Q blk off cap a m s b nb (f' b) (bel s (win D a m) (b + 1)) wx _ _ _ _ _ _ _ _ _ _ _ _ _ _ _ _ _ _ _ _ _ _ _ _ _ _ _ _ _ _ _ _ _ _ _ _ _ _ _ _ _ _ _ _ _ _ _ _ _ _ _ _ _ _ _ _ _ _ _ _ _ _ _ _ _ _ _ _ _ _ _ _ _ _ _ _ _ _ _ _ _ _ _ _ _ _ _ _ _ _ _ _ _ _ _ _ _ _ _ _ _ _ _ _ _ _ _ _ _ _ _ _ _ _ _ _ _ hb256 ho hbb (by omega) hbig (hI.next.cell hb256) (hI.ends.cell hb256) ⟨fun v115 v116 v117 v118 v119 v120 v121 => ?_⟩
    exact hexit E f' _ u17 u18 v115 v116 v117 v118 v119 v120 v121 u122 u123 u124 u125 u126 u127 u128 u129 u130 u131 u132 u133 u134 u135 u136 u137 u138 u139 u140 u141 u142 u143 u144 u145 u146 u147 u148 u149 u150 u151 u152 u153 u154 u155 u156 u157 u158 u159 u160 u161 u162 u163 u164 u165 u166 u167 ⟨hI.part, hI.row.drewN 1, hI.next.drewN 1, hI.ends.drewN 1, hI.done⟩ (by omega)

end Go.Proofs.Ybulkzss.W
