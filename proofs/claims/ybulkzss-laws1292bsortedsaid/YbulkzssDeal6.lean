/-
  sortWords' dealing, the loop over the buckets.
-/
import Derived.Test.YbulkzssDeal7
namespace Go.Proofs.Ybulkzss.W
open Go.RowKit Go.Sort Go.Proofs.Ybulkzss.Plain
set_option linter.unusedVariables false

set_option maxRecDepth 1000000 in
set_option maxHeartbeats 1000000 in
theorem go6 (K : Act → World → Prop) (Q : Exit → Act → World → Prop) (blk off cap a m s b nb : Nat) (D : Array Nat) (w : World) (hH : Box (Holds encW w blk off D)) (hm : a + m ≤ D.size) (hbig : m ≤ 1048576) (hs56 : s ≤ 56) (hb256 : b < 256) (hnb : w.heap.size ≤ nb) (hblk : blk < w.heap.size)
    (E : Array Nat) (f : Nat → Nat) (wr : World) (c4 c6 c8 c10 c13 c14 c15 c22 c23 c24 c64 c65 c66 c67 c68 c69 c70 c71 c72 c73 c74 c75 c76 c77 c78 c79 c80 c81 c82 c83 c84 c85 c86 c87 c88 c89 c90 c91 c92 c93 c94 c95 c96 c97 c98 c99 c100 c101 c102 c103 c104 c105 c106 c107 c108 c109 c110 c111 u16 u17 u18 u113 u114 u115 u116 u117 u118 u119 u120 u121 u122 u123 u124 u125 u126 u127 u128 u129 u130 u131 u132 u133 u134 u135 u136 u137 u138 u139 u140 u141 u142 u143 u144 u145 u146 u147 u148 u149 u150 u151 u152 u153 u154 u155 u156 u157 u158 u159 u160 u161 u162 u163 u164 u165 u166 u167 u168 : Value)
    (h7 : Box (In7 s a m b nb blk off D w wr E f))
    (hK : Box (∀ (E' : Array Nat) (f' : Nat → Nat) (wx : World) (v16 v17 v18 v113 v114 v115 v116 v117 v118 v119 v120 v121 v122 v123 v124 v125 v126 v127 v128 v129 v130 v131 v132 v133 v134 v135 v136 v137 v138 v139 v140 v141 v142 v143 v144 v145 v146 v147 v148 v149 v150 v151 v152 v153 v154 v155 v156 v157 v158 v159 v160 v161 v162 v163 v164 v165 v166 v167 v168 : Value), In7 s a m b nb blk off D w wx E' f' → f' b = bel s (win D a m) (b + 1) → K ⟨List.toArray ((.slice (some ⟨blk, off + a, none⟩) m cap) :: undef :: undef :: undef :: c4 :: undef :: c6 :: (.int .i64 (s : Int)) :: c8 :: undef :: c10 :: (.pointer (some ⟨nb, 0, none⟩)) :: (.pointer (some ⟨nb + 1, 0, none⟩)) :: c13 :: c14 :: c15 :: v16 :: v17 :: v18 :: undef :: undef :: undef :: c22 :: c23 :: c24 :: undef :: undef :: undef :: undef :: undef :: undef :: undef :: undef :: undef :: undef :: undef :: undef :: undef :: undef :: undef :: undef :: undef :: undef :: undef :: undef :: undef :: undef :: undef :: undef :: undef :: undef :: undef :: undef :: undef :: undef :: undef :: undef :: undef :: undef :: undef :: undef :: undef :: undef :: undef :: c64 :: c65 :: c66 :: c67 :: c68 :: c69 :: c70 :: c71 :: c72 :: c73 :: c74 :: c75 :: c76 :: c77 :: c78 :: c79 :: c80 :: c81 :: c82 :: c83 :: c84 :: c85 :: c86 :: c87 :: c88 :: c89 :: c90 :: c91 :: c92 :: c93 :: c94 :: c95 :: c96 :: c97 :: c98 :: c99 :: c100 :: c101 :: c102 :: c103 :: c104 :: c105 :: c106 :: c107 :: c108 :: c109 :: c110 :: c111 :: (.int .i64 ((b : Int) + 1)) :: v113 :: v114 :: v115 :: v116 :: v117 :: v118 :: v119 :: v120 :: v121 :: v122 :: v123 :: v124 :: v125 :: v126 :: v127 :: v128 :: v129 :: v130 :: v131 :: v132 :: v133 :: v134 :: v135 :: v136 :: v137 :: v138 :: v139 :: v140 :: v141 :: v142 :: v143 :: v144 :: v145 :: v146 :: v147 :: v148 :: v149 :: v150 :: v151 :: v152 :: v153 :: v154 :: v155 :: v156 :: v157 :: v158 :: v159 :: v160 :: v161 :: v162 :: v163 :: v164 :: v165 :: v166 :: v167 :: v168 :: undef :: undef :: undef :: undef :: undef :: undef :: undef :: undef :: undef :: undef :: undef :: undef :: undef :: undef :: undef :: []), []⟩ wx)) :
    Code.wp Yba.prog (pick Yba.f7.body 4) (Exit.then K Q) ⟨List.toArray ((.slice (some ⟨blk, off + a, none⟩) m cap) :: undef :: undef :: undef :: c4 :: undef :: c6 :: (.int .i64 (s : Int)) :: c8 :: undef :: c10 :: (.pointer (some ⟨nb, 0, none⟩)) :: (.pointer (some ⟨nb + 1, 0, none⟩)) :: c13 :: c14 :: c15 :: u16 :: u17 :: u18 :: undef :: undef :: undef :: c22 :: c23 :: c24 :: undef :: undef :: undef :: undef :: undef :: undef :: undef :: undef :: undef :: undef :: undef :: undef :: undef :: undef :: undef :: undef :: undef :: undef :: undef :: undef :: undef :: undef :: undef :: undef :: undef :: undef :: undef :: undef :: undef :: undef :: undef :: undef :: undef :: undef :: undef :: undef :: undef :: undef :: undef :: c64 :: c65 :: c66 :: c67 :: c68 :: c69 :: c70 :: c71 :: c72 :: c73 :: c74 :: c75 :: c76 :: c77 :: c78 :: c79 :: c80 :: c81 :: c82 :: c83 :: c84 :: c85 :: c86 :: c87 :: c88 :: c89 :: c90 :: c91 :: c92 :: c93 :: c94 :: c95 :: c96 :: c97 :: c98 :: c99 :: c100 :: c101 :: c102 :: c103 :: c104 :: c105 :: c106 :: c107 :: c108 :: c109 :: c110 :: c111 :: (.int .i64 (b : Int)) :: u113 :: u114 :: u115 :: u116 :: u117 :: u118 :: u119 :: u120 :: u121 :: u122 :: u123 :: u124 :: u125 :: u126 :: u127 :: u128 :: u129 :: u130 :: u131 :: u132 :: u133 :: u134 :: u135 :: u136 :: u137 :: u138 :: u139 :: u140 :: u141 :: u142 :: u143 :: u144 :: u145 :: u146 :: u147 :: u148 :: u149 :: u150 :: u151 :: u152 :: u153 :: u154 :: u155 :: u156 :: u157 :: u158 :: u159 :: u160 :: u161 :: u162 :: u163 :: u164 :: u165 :: u166 :: u167 :: u168 :: undef :: undef :: undef :: undef :: undef :: undef :: undef :: undef :: undef :: undef :: undef :: undef :: undef :: undef :: undef :: []), []⟩ wr := by
  conv => arg 2; whnf
  repeat (first | go_values | go_skip | go_guarded | go_step | go_upon | go_back)
  refine loop7 _ blk off cap a m s b nb D w hH.out hm hbig hs56 hb256 hnb hblk E f _ _ _ _ _ _ _ _ _ _ _ _ _ _ _ _ _ _ _ _ _ _ _ _ _ _ _ _ _ _ _ _ _ _ _ _ _ _ _ _ _ _ _ _ _ _ _ _ _ _ _ _ _ _ _ _ _ _ _ _ _ _ _ _ _ _ _ _ _ _ _ _ _ _ _ _ _ _ _ _ _ _ _ _ _ _ _ _ _ _ _ _ _ _ _ _ _ _ _ _ _ _ _ _ _ _ _ _ _ _ _ _ _ _ _ _ _ _ h7.out ?_
  clear h7
  intro E' f' wx v17 v18 v115 v116 v117 v118 v119 v120 v121 v122 v123 v124 v125 v126 v127 v128 v129 v130 v131 v132 v133 v134 v135 v136 v137 v138 v139 v140 v141 v142 v143 v144 v145 v146 v147 v148 v149 v150 v151 v152 v153 v154 v155 v156 v157 v158 v159 v160 v161 v162 v163 v164 v165 v166 v167 hI hf
  have HI := Box.mk hI
  have HF := Box.mk hf
  clear hI hf
  as_aux_lemma =>
    repeat (first | go_values | go_skip | go_guarded | go_step | go_upon | go_back)
    exact hK.out _ _ _ _ _ _ _ _ _ _ _ _ _ _ _ _ _ _ _ _ _ _ _ _ _ _ _ _ _ _ _ _ _ _ _ _ _ _ _ _ _ _ _ _ _ _ _ _ _ _ _ _ _ _ _ _ _ _ _ _ _ _ HI.out HF.out

set_option maxRecDepth 1000000 in
set_option maxHeartbeats 1000000 in
theorem out6 (K : Act → World → Prop) (Q : Exit → Act → World → Prop) (blk off cap a m s nb : Nat) (wr : World) (c4 c6 c8 c10 c13 c14 c15 c22 c23 c24 c64 c65 c66 c67 c68 c69 c70 c71 c72 c73 c74 c75 c76 c77 c78 c79 c80 c81 c82 c83 c84 c85 c86 c87 c88 c89 c90 c91 c92 c93 c94 c95 c96 c97 c98 c99 c100 c101 c102 c103 c104 c105 c106 c107 c108 c109 c110 c111 u16 u17 u18 u113 u114 u115 u116 u117 u118 u119 u120 u121 u122 u123 u124 u125 u126 u127 u128 u129 u130 u131 u132 u133 u134 u135 u136 u137 u138 u139 u140 u141 u142 u143 u144 u145 u146 u147 u148 u149 u150 u151 u152 u153 u154 u155 u156 u157 u158 u159 u160 u161 u162 u163 u164 u165 u166 u167 u168 : Value)
    (hX : Box (∀ (v113 : Value), Q (.exit 10) ⟨List.toArray ((.slice (some ⟨blk, off + a, none⟩) m cap) :: undef :: undef :: undef :: c4 :: undef :: c6 :: (.int .i64 (s : Int)) :: c8 :: undef :: c10 :: (.pointer (some ⟨nb, 0, none⟩)) :: (.pointer (some ⟨nb + 1, 0, none⟩)) :: c13 :: c14 :: c15 :: u16 :: u17 :: u18 :: undef :: undef :: undef :: c22 :: c23 :: c24 :: undef :: undef :: undef :: undef :: undef :: undef :: undef :: undef :: undef :: undef :: undef :: undef :: undef :: undef :: undef :: undef :: undef :: undef :: undef :: undef :: undef :: undef :: undef :: undef :: undef :: undef :: undef :: undef :: undef :: undef :: undef :: undef :: undef :: undef :: undef :: undef :: undef :: undef :: undef :: c64 :: c65 :: c66 :: c67 :: c68 :: c69 :: c70 :: c71 :: c72 :: c73 :: c74 :: c75 :: c76 :: c77 :: c78 :: c79 :: c80 :: c81 :: c82 :: c83 :: c84 :: c85 :: c86 :: c87 :: c88 :: c89 :: c90 :: c91 :: c92 :: c93 :: c94 :: c95 :: c96 :: c97 :: c98 :: c99 :: c100 :: c101 :: c102 :: c103 :: c104 :: c105 :: c106 :: c107 :: c108 :: c109 :: c110 :: c111 :: (.int .i64 256) :: v113 :: u114 :: u115 :: u116 :: u117 :: u118 :: u119 :: u120 :: u121 :: u122 :: u123 :: u124 :: u125 :: u126 :: u127 :: u128 :: u129 :: u130 :: u131 :: u132 :: u133 :: u134 :: u135 :: u136 :: u137 :: u138 :: u139 :: u140 :: u141 :: u142 :: u143 :: u144 :: u145 :: u146 :: u147 :: u148 :: u149 :: u150 :: u151 :: u152 :: u153 :: u154 :: u155 :: u156 :: u157 :: u158 :: u159 :: u160 :: u161 :: u162 :: u163 :: u164 :: u165 :: u166 :: u167 :: u168 :: undef :: undef :: undef :: undef :: undef :: undef :: undef :: undef :: undef :: undef :: undef :: undef :: undef :: undef :: undef :: []), []⟩ wr)) :
    Code.wp Yba.prog (pick Yba.f7.body 4) (Exit.then K Q) ⟨List.toArray ((.slice (some ⟨blk, off + a, none⟩) m cap) :: undef :: undef :: undef :: c4 :: undef :: c6 :: (.int .i64 (s : Int)) :: c8 :: undef :: c10 :: (.pointer (some ⟨nb, 0, none⟩)) :: (.pointer (some ⟨nb + 1, 0, none⟩)) :: c13 :: c14 :: c15 :: u16 :: u17 :: u18 :: undef :: undef :: undef :: c22 :: c23 :: c24 :: undef :: undef :: undef :: undef :: undef :: undef :: undef :: undef :: undef :: undef :: undef :: undef :: undef :: undef :: undef :: undef :: undef :: undef :: undef :: undef :: undef :: undef :: undef :: undef :: undef :: undef :: undef :: undef :: undef :: undef :: undef :: undef :: undef :: undef :: undef :: undef :: undef :: undef :: undef :: c64 :: c65 :: c66 :: c67 :: c68 :: c69 :: c70 :: c71 :: c72 :: c73 :: c74 :: c75 :: c76 :: c77 :: c78 :: c79 :: c80 :: c81 :: c82 :: c83 :: c84 :: c85 :: c86 :: c87 :: c88 :: c89 :: c90 :: c91 :: c92 :: c93 :: c94 :: c95 :: c96 :: c97 :: c98 :: c99 :: c100 :: c101 :: c102 :: c103 :: c104 :: c105 :: c106 :: c107 :: c108 :: c109 :: c110 :: c111 :: (.int .i64 256) :: u113 :: u114 :: u115 :: u116 :: u117 :: u118 :: u119 :: u120 :: u121 :: u122 :: u123 :: u124 :: u125 :: u126 :: u127 :: u128 :: u129 :: u130 :: u131 :: u132 :: u133 :: u134 :: u135 :: u136 :: u137 :: u138 :: u139 :: u140 :: u141 :: u142 :: u143 :: u144 :: u145 :: u146 :: u147 :: u148 :: u149 :: u150 :: u151 :: u152 :: u153 :: u154 :: u155 :: u156 :: u157 :: u158 :: u159 :: u160 :: u161 :: u162 :: u163 :: u164 :: u165 :: u166 :: u167 :: u168 :: undef :: undef :: undef :: undef :: undef :: undef :: undef :: undef :: undef :: undef :: undef :: undef :: undef :: undef :: undef :: []), []⟩ wr := by
  conv => arg 2; whnf
  repeat (first | go_values | go_skip | go_guarded | go_step | go_upon | go_back)
  exact hX.out _

set_option maxRecDepth 1000000 in
set_option maxHeartbeats 1000000 in
theorem loop6 (Q : Exit → Act → World → Prop) (blk off cap a m s nb : Nat) (D : Array Nat) (w : World) (hH : Holds encW w blk off D) (hm : a + m ≤ D.size) (hbig : m ≤ 1048576) (hs56 : s ≤ 56) (hnb : w.heap.size ≤ nb) (hblk : blk < w.heap.size)
    (wr : World) (c4 c6 c8 c10 c13 c14 c15 c22 c23 c24 c64 c65 c66 c67 c68 c69 c70 c71 c72 c73 c74 c75 c76 c77 c78 c79 c80 c81 c82 c83 c84 c85 c86 c87 c88 c89 c90 c91 c92 c93 c94 c95 c96 c97 c98 c99 c100 c101 c102 c103 c104 c105 c106 c107 c108 c109 c110 c111 u16 u17 u18 u113 u114 u115 u116 u117 u118 u119 u120 u121 u122 u123 u124 u125 u126 u127 u128 u129 u130 u131 u132 u133 u134 u135 u136 u137 u138 u139 u140 u141 u142 u143 u144 u145 u146 u147 u148 u149 u150 u151 u152 u153 u154 u155 u156 u157 u158 u159 u160 u161 u162 u163 u164 u165 u166 u167 u168 : Value)
    (hI : In7 s a m 0 nb blk off D w wr D (bel s (win D a m)))
    (hexit : ∀ (E : Array Nat) (wx : World) (u16 u17 u18 u113 u114 u115 u116 u117 u118 u119 u120 u121 u122 u123 u124 u125 u126 u127 u128 u129 u130 u131 u132 u133 u134 u135 u136 u137 u138 u139 u140 u141 u142 u143 u144 u145 u146 u147 u148 u149 u150 u151 u152 u153 u154 u155 u156 u157 u158 u159 u160 u161 u162 u163 u164 u165 u166 u167 u168 : Value), Deal s a m D E 0 → Row w wx blk off E → Arr wx (nb + 1) (fun c => bel s (win D a m) (c + 1)) →
      Q (.exit 10) ⟨List.toArray ((.slice (some ⟨blk, off + a, none⟩) m cap) :: undef :: undef :: undef :: c4 :: undef :: c6 :: (.int .i64 (s : Int)) :: c8 :: undef :: c10 :: (.pointer (some ⟨nb, 0, none⟩)) :: (.pointer (some ⟨nb + 1, 0, none⟩)) :: c13 :: c14 :: c15 :: u16 :: u17 :: u18 :: undef :: undef :: undef :: c22 :: c23 :: c24 :: undef :: undef :: undef :: undef :: undef :: undef :: undef :: undef :: undef :: undef :: undef :: undef :: undef :: undef :: undef :: undef :: undef :: undef :: undef :: undef :: undef :: undef :: undef :: undef :: undef :: undef :: undef :: undef :: undef :: undef :: undef :: undef :: undef :: undef :: undef :: undef :: undef :: undef :: undef :: c64 :: c65 :: c66 :: c67 :: c68 :: c69 :: c70 :: c71 :: c72 :: c73 :: c74 :: c75 :: c76 :: c77 :: c78 :: c79 :: c80 :: c81 :: c82 :: c83 :: c84 :: c85 :: c86 :: c87 :: c88 :: c89 :: c90 :: c91 :: c92 :: c93 :: c94 :: c95 :: c96 :: c97 :: c98 :: c99 :: c100 :: c101 :: c102 :: c103 :: c104 :: c105 :: c106 :: c107 :: c108 :: c109 :: c110 :: c111 :: (.int .i64 256) :: u113 :: u114 :: u115 :: u116 :: u117 :: u118 :: u119 :: u120 :: u121 :: u122 :: u123 :: u124 :: u125 :: u126 :: u127 :: u128 :: u129 :: u130 :: u131 :: u132 :: u133 :: u134 :: u135 :: u136 :: u137 :: u138 :: u139 :: u140 :: u141 :: u142 :: u143 :: u144 :: u145 :: u146 :: u147 :: u148 :: u149 :: u150 :: u151 :: u152 :: u153 :: u154 :: u155 :: u156 :: u157 :: u158 :: u159 :: u160 :: u161 :: u162 :: u163 :: u164 :: u165 :: u166 :: u167 :: u168 :: undef :: undef :: undef :: undef :: undef :: undef :: undef :: undef :: undef :: undef :: undef :: undef :: undef :: undef :: undef :: []), []⟩ wx) :
    Code.wp Yba.prog (Code.loop (pick Yba.f7.body 4)) Q ⟨List.toArray ((.slice (some ⟨blk, off + a, none⟩) m cap) :: undef :: undef :: undef :: c4 :: undef :: c6 :: (.int .i64 (s : Int)) :: c8 :: undef :: c10 :: (.pointer (some ⟨nb, 0, none⟩)) :: (.pointer (some ⟨nb + 1, 0, none⟩)) :: c13 :: c14 :: c15 :: u16 :: u17 :: u18 :: undef :: undef :: undef :: c22 :: c23 :: c24 :: undef :: undef :: undef :: undef :: undef :: undef :: undef :: undef :: undef :: undef :: undef :: undef :: undef :: undef :: undef :: undef :: undef :: undef :: undef :: undef :: undef :: undef :: undef :: undef :: undef :: undef :: undef :: undef :: undef :: undef :: undef :: undef :: undef :: undef :: undef :: undef :: undef :: undef :: undef :: c64 :: c65 :: c66 :: c67 :: c68 :: c69 :: c70 :: c71 :: c72 :: c73 :: c74 :: c75 :: c76 :: c77 :: c78 :: c79 :: c80 :: c81 :: c82 :: c83 :: c84 :: c85 :: c86 :: c87 :: c88 :: c89 :: c90 :: c91 :: c92 :: c93 :: c94 :: c95 :: c96 :: c97 :: c98 :: c99 :: c100 :: c101 :: c102 :: c103 :: c104 :: c105 :: c106 :: c107 :: c108 :: c109 :: c110 :: c111 :: (.int .i64 0) :: u113 :: u114 :: u115 :: u116 :: u117 :: u118 :: u119 :: u120 :: u121 :: u122 :: u123 :: u124 :: u125 :: u126 :: u127 :: u128 :: u129 :: u130 :: u131 :: u132 :: u133 :: u134 :: u135 :: u136 :: u137 :: u138 :: u139 :: u140 :: u141 :: u142 :: u143 :: u144 :: u145 :: u146 :: u147 :: u148 :: u149 :: u150 :: u151 :: u152 :: u153 :: u154 :: u155 :: u156 :: u157 :: u158 :: u159 :: u160 :: u161 :: u162 :: u163 :: u164 :: u165 :: u166 :: u167 :: u168 :: undef :: undef :: undef :: undef :: undef :: undef :: undef :: undef :: undef :: undef :: undef :: undef :: undef :: undef :: undef :: []), []⟩ wr := by
  refine wp_loop_ghost (fun k a' wx => ∃ (b : Nat) (E : Array Nat) (f' : Nat → Nat) (u16 u17 u18 u113 u114 u115 u116 u117 u118 u119 u120 u121 u122 u123 u124 u125 u126 u127 u128 u129 u130 u131 u132 u133 u134 u135 u136 u137 u138 u139 u140 u141 u142 u143 u144 u145 u146 u147 u148 u149 u150 u151 u152 u153 u154 u155 u156 u157 u158 u159 u160 u161 u162 u163 u164 u165 u166 u167 u168 : Value), b ≤ 256 ∧ 256 - b ≤ k ∧ In7 s a m b nb blk off D w wx E f' ∧ a' = ⟨List.toArray ((.slice (some ⟨blk, off + a, none⟩) m cap) :: undef :: undef :: undef :: c4 :: undef :: c6 :: (.int .i64 (s : Int)) :: c8 :: undef :: c10 :: (.pointer (some ⟨nb, 0, none⟩)) :: (.pointer (some ⟨nb + 1, 0, none⟩)) :: c13 :: c14 :: c15 :: u16 :: u17 :: u18 :: undef :: undef :: undef :: c22 :: c23 :: c24 :: undef :: undef :: undef :: undef :: undef :: undef :: undef :: undef :: undef :: undef :: undef :: undef :: undef :: undef :: undef :: undef :: undef :: undef :: undef :: undef :: undef :: undef :: undef :: undef :: undef :: undef :: undef :: undef :: undef :: undef :: undef :: undef :: undef :: undef :: undef :: undef :: undef :: undef :: undef :: c64 :: c65 :: c66 :: c67 :: c68 :: c69 :: c70 :: c71 :: c72 :: c73 :: c74 :: c75 :: c76 :: c77 :: c78 :: c79 :: c80 :: c81 :: c82 :: c83 :: c84 :: c85 :: c86 :: c87 :: c88 :: c89 :: c90 :: c91 :: c92 :: c93 :: c94 :: c95 :: c96 :: c97 :: c98 :: c99 :: c100 :: c101 :: c102 :: c103 :: c104 :: c105 :: c106 :: c107 :: c108 :: c109 :: c110 :: c111 :: (.int .i64 (b : Int)) :: u113 :: u114 :: u115 :: u116 :: u117 :: u118 :: u119 :: u120 :: u121 :: u122 :: u123 :: u124 :: u125 :: u126 :: u127 :: u128 :: u129 :: u130 :: u131 :: u132 :: u133 :: u134 :: u135 :: u136 :: u137 :: u138 :: u139 :: u140 :: u141 :: u142 :: u143 :: u144 :: u145 :: u146 :: u147 :: u148 :: u149 :: u150 :: u151 :: u152 :: u153 :: u154 :: u155 :: u156 :: u157 :: u158 :: u159 :: u160 :: u161 :: u162 :: u163 :: u164 :: u165 :: u166 :: u167 :: u168 :: undef :: undef :: undef :: undef :: undef :: undef :: undef :: undef :: undef :: undef :: undef :: undef :: undef :: undef :: undef :: []), []⟩) 256 ⟨0, D, _, u16, u17, u18, u113, u114, u115, u116, u117, u118, u119, u120, u121, u122, u123, u124, u125, u126, u127, u128, u129, u130, u131, u132, u133, u134, u135, u136, u137, u138, u139, u140, u141, u142, u143, u144, u145, u146, u147, u148, u149, u150, u151, u152, u153, u154, u155, u156, u157, u158, u159, u160, u161, u162, u163, u164, u165, u166, u167, u168, by omega, by omega, hI, rfl⟩ ?_
  intro n a' wx hinv
  obtain ⟨b, hinv⟩ := hinv
  obtain ⟨E, hinv⟩ := hinv
  obtain ⟨f', hinv⟩ := hinv
  obtain ⟨u16, hinv⟩ := hinv
  obtain ⟨u17, hinv⟩ := hinv
  obtain ⟨u18, hinv⟩ := hinv
  obtain ⟨u113, hinv⟩ := hinv
  obtain ⟨u114, hinv⟩ := hinv
  obtain ⟨u115, hinv⟩ := hinv
  obtain ⟨u116, hinv⟩ := hinv
  obtain ⟨u117, hinv⟩ := hinv
  obtain ⟨u118, hinv⟩ := hinv
  obtain ⟨u119, hinv⟩ := hinv
  obtain ⟨u120, hinv⟩ := hinv
  obtain ⟨u121, hinv⟩ := hinv
  obtain ⟨u122, hinv⟩ := hinv
  obtain ⟨u123, hinv⟩ := hinv
  obtain ⟨u124, hinv⟩ := hinv
  obtain ⟨u125, hinv⟩ := hinv
  obtain ⟨u126, hinv⟩ := hinv
  obtain ⟨u127, hinv⟩ := hinv
  obtain ⟨u128, hinv⟩ := hinv
  obtain ⟨u129, hinv⟩ := hinv
  obtain ⟨u130, hinv⟩ := hinv
  obtain ⟨u131, hinv⟩ := hinv
  obtain ⟨u132, hinv⟩ := hinv
  obtain ⟨u133, hinv⟩ := hinv
  obtain ⟨u134, hinv⟩ := hinv
  obtain ⟨u135, hinv⟩ := hinv
  obtain ⟨u136, hinv⟩ := hinv
  obtain ⟨u137, hinv⟩ := hinv
  obtain ⟨u138, hinv⟩ := hinv
  obtain ⟨u139, hinv⟩ := hinv
  obtain ⟨u140, hinv⟩ := hinv
  obtain ⟨u141, hinv⟩ := hinv
  obtain ⟨u142, hinv⟩ := hinv
  obtain ⟨u143, hinv⟩ := hinv
  obtain ⟨u144, hinv⟩ := hinv
  obtain ⟨u145, hinv⟩ := hinv
  obtain ⟨u146, hinv⟩ := hinv
  obtain ⟨u147, hinv⟩ := hinv
  obtain ⟨u148, hinv⟩ := hinv
  obtain ⟨u149, hinv⟩ := hinv
  obtain ⟨u150, hinv⟩ := hinv
  obtain ⟨u151, hinv⟩ := hinv
  obtain ⟨u152, hinv⟩ := hinv
  obtain ⟨u153, hinv⟩ := hinv
  obtain ⟨u154, hinv⟩ := hinv
  obtain ⟨u155, hinv⟩ := hinv
  obtain ⟨u156, hinv⟩ := hinv
  obtain ⟨u157, hinv⟩ := hinv
  obtain ⟨u158, hinv⟩ := hinv
  obtain ⟨u159, hinv⟩ := hinv
  obtain ⟨u160, hinv⟩ := hinv
  obtain ⟨u161, hinv⟩ := hinv
  obtain ⟨u162, hinv⟩ := hinv
  obtain ⟨u163, hinv⟩ := hinv
  obtain ⟨u164, hinv⟩ := hinv
  obtain ⟨u165, hinv⟩ := hinv
  obtain ⟨u166, hinv⟩ := hinv
  obtain ⟨u167, hinv⟩ := hinv
  obtain ⟨u168, hinv⟩ := hinv
  obtain ⟨hb, hgk, hI, ha⟩ := hinv
  rw [ha]
  by_cases hb256 : b < 256
  · refine go6 _ Q blk off cap a m s b nb D w ⟨hH⟩ hm hbig hs56 hb256 hnb hblk E f' wx _ _ _ _ _ _ _ _ _ _ _ _ _ _ _ _ _ _ _ _ _ _ _ _ _ _ _ _ _ _ _ _ _ _ _ _ _ _ _ _ _ _ _ _ _ _ _ _ _ _ _ _ _ _ _ _ _ _ _ _ _ _ _ _ _ _ _ _ _ _ _ _ _ _ _ _ _ _ _ _ _ _ _ _ _ _ _ _ _ _ _ _ _ _ _ _ _ _ _ _ _ _ _ _ _ _ _ _ _ _ _ _ _ _ _ _ _ ⟨hI⟩ ⟨fun E' f'' wx' v16 v17 v18 v113 v114 v115 v116 v117 v118 v119 v120 v121 v122 v123 v124 v125 v126 v127 v128 v129 v130 v131 v132 v133 v134 v135 v136 v137 v138 v139 v140 v141 v142 v143 v144 v145 v146 v147 v148 v149 v150 v151 v152 v153 v154 v155 v156 v157 v158 v159 v160 v161 v162 v163 v164 v165 v166 v167 v168 h7 hf => ?_⟩
    refine ⟨256 - (b + 1), by omega, b + 1, E', f'', v16, v17, v18, v113, v114, v115, v116, v117, v118, v119, v120, v121, v122, v123, v124, v125, v126, v127, v128, v129, v130, v131, v132, v133, v134, v135, v136, v137, v138, v139, v140, v141, v142, v143, v144, v145, v146, v147, v148, v149, v150, v151, v152, v153, v154, v155, v156, v157, v158, v159, v160, v161, v162, v163, v164, v165, v166, v167, v168, by omega, Nat.le_refl _, ⟨h7.part, h7.row, h7.next, h7.ends, fun c hc => ?_⟩, rfl⟩
    by_cases e : c = b
    · rw [e]; exact hf
    · exact h7.done c (by omega)
  · have e256 : b = 256 := by omega
    rw [e256] at hI ⊢
    refine out6 _ Q blk off cap a m s nb wx _ _ _ _ _ _ _ _ _ _ _ _ _ _ _ _ _ _ _ _ _ _ _ _ _ _ _ _ _ _ _ _ _ _ _ _ _ _ _ _ _ _ _ _ _ _ _ _ _ _ _ _ _ _ _ _ _ _ _ _ _ _ _ _ _ _ _ _ _ _ _ _ _ _ _ _ _ _ _ _ _ _ _ _ _ _ _ _ _ _ _ _ _ _ _ _ _ _ _ _ _ _ _ _ _ _ _ _ _ _ _ _ _ _ _ _ _ ⟨fun v113 => ?_⟩
    exact hexit E wx u16 u17 u18 v113 u114 u115 u116 u117 u118 u119 u120 u121 u122 u123 u124 u125 u126 u127 u128 u129 u130 u131 u132 u133 u134 u135 u136 u137 u138 u139 u140 u141 u142 u143 u144 u145 u146 u147 u148 u149 u150 u151 u152 u153 u154 u155 u156 u157 u158 u159 u160 u161 u162 u163 u164 u165 u166 u167 u168 (Deal.start hI.part (fun c hc => hI.done c hc)) hI.row hI.ends

end Go.Proofs.Ybulkzss.W
