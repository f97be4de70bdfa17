/-
  sortWords: the walk of the whole function; 48 words or more: by their bytes.
-/
import Derived.Test.YbulkzssDeal6
import Derived.Laws.BitsAllLaws
namespace Go.Proofs.Ybulkzss.W
open Go.RowKit Go.Sort Go.Proofs.Ybulkzss.Plain
set_option linter.unusedVariables false
theorem take_snoc (D : Array Nat) (a m k : Nat) (h : a + m ≤ D.size) (hk : k < m) : (win D a m).take (k + 1) = (win D a m).take k ++ [D[a + k]!] := by
  rw [List.take_add_one, win_at D a m k h hk]; rfl
theorem dif_step (D : Array Nat) (a m k : Nat) (h : a + m ≤ D.size) (hk : k < m) (hu : ∀ i, i < m → D[a + i]! < 2 ^ 64) :
    bits .or .u64 ((dif D[a]! ((win D a m).take k) : Nat) : Int) (bits .xor .u64 ((D[a + k]! : Nat) : Int) ((D[a]! : Nat) : Int)) = ((dif D[a]! ((win D a m).take (k + 1)) : Nat) : Int) := by
  have h0 := hu 0 (by omega)
  have h1 := hu k hk
  have hx : (D[a + k]! ^^^ D[a]!) < 2 ^ 64 := Nat.xor_lt_two_pow h1 (by simpa using h0)
  have hd : dif D[a]! ((win D a m).take k) < 2 ^ 64 := dif_lt _ _ _ (fun x hx => by
    obtain ⟨i, hi, rfl⟩ := (win_mem D a m h x).1 (List.mem_of_mem_take hx)
    exact Nat.xor_lt_two_pow (hu i hi) (by simpa using h0))
  rw [u64_xor_nat _ _ (by simpa using h1) (by simpa using h0), u64_or_nat _ _ (by simpa using hd) (by simpa using hx), take_snoc D a m k h hk, dif_snoc]
theorem key_int (s y : Nat) : (((y : Nat) : Int) / 2 ^ s % 256).toNat = key s y := by
  unfold key
  rw [show (256 : Int) = ((256 : Nat) : Int) from rfl, show ((2 : Int) ^ s) = ((2 ^ s : Nat) : Int) from (Int.natCast_pow 2 s).symm, ← Int.natCast_ediv, ← Int.natCast_emod, Int.toNat_natCast]
theorem size3 : ∃ i, Yba.prog.info? 3 = some i ∧ i.size = 1 := by
  have h : (Yba.prog.info? 3).map (fun i => i.size) = some 1 := by kernel_rfl
  cases e : Yba.prog.info? 3 with
  | none => rw [e] at h; cases h
  | some j => rw [e] at h; exact ⟨j, rfl, by injection h⟩
theorem index_tab (f : Nat → Nat) (b : Nat) (hb : b < 256) (w : World) : (Instr.index 34 (.agg (tab f)) (.int .i64 (b : Int))).run Yba.prog w = .ok (.int .i64 (f b : Int)) w := by
  have h1 : (0 : Int) ≤ (b : Int) ∧ (b : Int) < 256 := by omega
  simp [Instr.index, run_underlying Yba.underlying34, asIntOf, h1, go_sem, tab_at f b hb]
  intro h; omega
theorem zero34 (w : World) : (zeroValue 34).run Yba.prog w = .ok (.agg (tab fun _ => 0)) w := by kernel_rfl
theorem andnot7_fin : ∀ n : Fin 64, bits .andNot .i64 ((n.val : Nat) : Int) 7 = ((8 * (n.val / 8) : Nat) : Int) := by decide +kernel
theorem andnot7 (n : Nat) (h1 : 1 ≤ n) (h2 : n ≤ 64) : bits .andNot .i64 ((n : Int) - 1) 7 = ((8 * ((n - 1) / 8) : Nat) : Int) := by
  have := andnot7_fin ⟨n - 1, by omega⟩
  rw [show ((n : Int) - 1) = ((n - 1 : Nat) : Int) by omega]
  exact this
theorem len64 (X n : Nat) (w : World) (hX : X < 2 ^ 64) (hn : Lib.bitLen X = n) : Calls Yba.prog 11 #[.int .u64 (X : Int)] w fun e w' => e = .returned (.int .i64 (n : Int)) ∧ w = w' := by
  have h := Sh.bits_Len64 (X : Int) w (by omega) (by omega)
  rw [Int.toNat_natCast, hn] at h
  exact h.mono fun e w' ⟨h1, h2⟩ => ⟨h1, h2.symm⟩
/-- What sortWords does to m words. -/
def Good (m : Nat) : Prop := ∀ (blk off cap a adr : Nat) (D : Array Nat) (w : World), adr = off + a → Holds encW w blk off D → a + m ≤ D.size → m ≤ cap → m ≤ 1048576 → (win D a m).Nodup → (∀ i, i < m → D[a + i]! < 2 ^ 64) →
  Calls Yba.prog 7 #[.slice (some ⟨blk, adr, none⟩) m cap] w fun e w' => e = .returned (.tuple #[]) ∧ ∃ D', PermIn a (a + m) D D' ∧ SortedIn ltN a (a + m) D' ∧ Row w w' blk off D'

theorem win_sub (E : Array Nat) (a m p q : Nat) (h : a + m ≤ E.size) (hpq : p + q ≤ m) : (win E (a + p) q).Sublist (win E a m) := by
  rw [win_eq E a m h, win_eq E (a + p) q (by omega)]
  refine List.Sublist.map _ ?_
  have e : List.range' a m = List.range' a p ++ (List.range' (a + p) q ++ List.range' (a + p + q) (m - p - q)) := by
    rw [List.range'_append_1, List.range'_append_1]; congr 1; omega
  rw [e]
  exact (List.sublist_append_left _ _).trans (List.sublist_append_right _ _)

/-- The call on one bucket. -/
theorem sub_call {blk off cap a m s c p z : Nat} {D E : Array Nat} {w wr : World} (ih : ∀ m', m' < m → Good m') (hH : Holds encW w blk off D) (hm : a + m ≤ D.size) (hcap : m ≤ cap) (hbig : m ≤ 1048576) (hnd : (win D a m).Nodup) (hu : ∀ i, i < m → D[a + i]! < 2 ^ 64)
    (hD : Deal s a m D E c) (hR : Row w wr blk off E) (hc : c < 256) (hp : bel s (win D a m) c = p) (hz : bel s (win D a m) (c + 1) = z) (hzp : z - p < m) :
    Calls Yba.prog 7 #[.slice (some ⟨blk, off + a + p, none⟩) (z - p) (cap - p)] wr fun e w' => e = .returned (.tuple #[]) ∧ ∃ E', Deal s a m D E' (c + 1) ∧ Row w w' blk off E' := by
  have hE : E.size = D.size := hD.perm.1
  have hmono := bel_mono s (win D a m) (Nat.le_succ c)
  have hzm := bel_le s (win D a m) (show c + 1 ≤ 256 by omega)
  rw [win_length D a m hm, hz] at hzm
  rw [show c.succ = c + 1 from rfl, hp, hz] at hmono
  refine (ih (z - p) hzp blk off (cap - p) (a + p) (off + a + p) E wr (by omega) (hR.holds hH hE) (by omega) (by omega) (by omega) ?_ ?_).mono ?_
  · exact ((win_perm hD.perm).symm.nodup hnd).sublist (win_sub E a m p (z - p) (by omega) (by omega))
  · intro i hi
    have := permIn_all D E a (a + m) (fun x => x < 2 ^ 64) hm hD.perm (fun j h1 h2 => by have := hu (j - a) (by omega); rwa [show a + (j - a) = j by omega] at this) (a + p + i) (by omega) (by omega)
    exact this
  · rintro e w' ⟨he, E', h1, h2, h3⟩
    have ez : a + p + (z - p) = a + z := by omega
    rw [ez] at h1 h2
    refine ⟨he, E', hD.more hm hc (by rw [hp, hz]; exact h1) (by rw [hp, hz]; exact h2), hR.call h1.1 h3⟩

set_option maxRecDepth 1000000 in
set_option maxHeartbeats 1000000 in
theorem long (blk off cap a m : Nat) (D : Array Nat) (w : World) (ih : Box (∀ m', m' < m → Good m')) (hH : Holds encW w blk off D) (hm : a + m ≤ D.size) (h48 : ¬ m < 48) (hcap : m ≤ cap) (hbig : m ≤ 1048576) (hnd : (win D a m).Nodup) (hu : ∀ i, i < m → D[a + i]! < 2 ^ 64) :
    Calls Yba.prog 7 #[.slice (some ⟨blk, off + a, none⟩) m cap] w fun e w' =>
      e = .returned (.tuple #[]) ∧ ∃ D', PermIn a (a + m) D D' ∧ SortedIn ltN a (a + m) D' ∧ Row w w' blk off D' := by
  obtain ⟨x, hx⟩ : ∃ x : Nat → Int, ∀ t, x t = (D[a + t]! : Nat) := ⟨fun t => (D[a + t]! : Nat), fun _ => rfl⟩
  have hcw : ∀ t, t < m → w.cell? ⟨blk, off + a + t, none⟩ = some (.int .u64 (x t)) := fun t ht => by
    rw [hx, Nat.add_assoc]; exact (hH (a + t) (by omega)).1
  have HH := hide hH
  have HN := hide hnd
  have HU := hide hu
  have HX := hide hx
  clear hH hnd hu hx
  have hz34 := zero34
  go_enter Yba.func7, Yba.ntmps7
  go_wp2
  go_loop [4, 66] (fun vd vi => ∃ k : Nat, k ≤ m ∧ vi = .int .i64 k ∧ vd = .int .u64 ((dif D[a]! ((win D a m).take k) : Nat) : Int)) (fun _ vi => m - (RowKit.intOf vi).toNat)
  case atStart => exact ⟨0, Nat.zero_le _, rfl, by simp [dif]⟩
  case round =>
    obtain ⟨k, hk, rfl, rfl⟩ := hrel
    by_cases hkm : k < m
    · have hc0 := hcw 0 (by omega)
      obtain ⟨d, hd⟩ : ∃ d : Int, d = ((dif D[a]! ((win D a m).take k) : Nat) : Int) := ⟨_, rfl⟩
      rw [← hd]
      have HD := hide hd
      clear hd
      go_wp2
      go_round
      case rel =>
        refine ⟨k + 1, by omega, by go_num, ?_⟩
        rw [unhide HD, unhide HX, unhide HX, ← dif_step D a m k hm hkm (unhide HU)]
        rfl
      case measure => simp [RowKit.intOf]; omega
    · obtain rfl : m = k := by omega
      have hw0 : D[a]! ∈ win D a m := (win_mem D a m hm _).2 ⟨0, by omega, rfl⟩
      have hul : ∀ y ∈ win D a m, y < 2 ^ 64 := fun y hy => by
        obtain ⟨i, hi, rfl⟩ := (win_mem D a m hm y).1 hy
        exact unhide HU i hi
      have hlen : 2 ≤ (win D a m).length := by rw [win_length D a m hm]; omega
      have hX2 := dif_small hul hw0
      have hX0 := dif_pos (unhide HN) hw0 hlen
      have HHI := hide (high_same hul (unhide HN) hw0 hlen)
      have HSM := hide (bucket_small hul (unhide HN) hw0 hlen)
      have eT : (win D a m).take m = win D a m := List.take_of_length_le (by rw [win_length D a m hm]; exact Nat.le_refl _)
      rw [eT]
      generalize hX : dif D[a]! (win D a m) = X at *
      have hn := len_facts X hX0 hX2
      have hn64 := len_le X hX2
      generalize hs : shiftOf X = s at *
      generalize hn' : Lib.bitLen X = n at *
      have hs8 : s = 8 * ((n - 1) / 8) := by rw [← hs, ← hn']; rfl
      have hsn : bits .andNot .i64 ((n : Int) - 1) 7 = (s : Int) := by rw [hs8]; exact andnot7 n hn.1 hn64
      have hs56 : s ≤ 56 := by omega
      have hn1 := hn.1
      have HLN := hide hn'
      clear hn hX hs hn' hs8 eT hlen hul hw0 hX0
      go_wp2_with fail
      refine (len64 X n _ hX2 (unhide HLN)).mono ?_
      rintro e w' ⟨rfl, rfl⟩
      go_wp2_with fail
      go_loopw [84] (fun vi wr => ∃ (k : Nat) (f : Nat → Nat), k ≤ m ∧ vi = .int .i64 k ∧ Row w wr blk off D ∧ Arr wr w.heap.size f ∧ ∀ c, c < 256 → f c = ((win D a m).take k).countP (fun y => key s y == c)) (fun vi _ => m - (RowKit.intOf vi).toNat)
      case atStart => exact ⟨0, fun _ => 0, Nat.zero_le _, rfl, (row_start (unhide HH)).alloc _, heap_alloc_new w _, fun c _ => by simp⟩
      case round =>
        obtain ⟨k, f, hk, rfl, hR, hA, hf⟩ := hrel
        have HR := hide hR
        have HA := hide hA
        have HF := hide hf
        clear hf
        by_cases hkm' : k < m
        · have hcr : ∀ t, t < m → wr.cell? ⟨blk, off + a + t, none⟩ = some (.int .u64 (x t)) := fun t ht => by
            rw [unhide HX, Nat.add_assoc]; exact hR.cell (unhide HH) rfl (by omega)
          have hkk : (x k / 2 ^ s % 256).toNat = key s D[a + k]! := by rw [unhide HX]; exact key_int s _
          obtain ⟨c, hc⟩ : ∃ c, (x k / 2 ^ s % 256).toNat = c := ⟨_, rfl⟩
          have hc256 : c < 256 := by rw [← hc, hkk]; exact key_lt _ _
          have hcc : wr.cell? ⟨w.heap.size, (x k / 2 ^ s % 256).toNat, none⟩ = some (.int .i64 (f c : Int)) := by rw [hc]; exact hA.cell hc256
          have hcf : wr.frozen? ⟨w.heap.size, (x k / 2 ^ s % 256).toNat, none⟩ = false := hA.frozen _
          have hfb : f c ≤ 1048576 := by
            rw [unhide HF c hc256]
            refine Nat.le_trans List.countP_le_length ?_
            rw [List.length_take]; omega
          have HKK := hide hkk
          have HC := hide hc
          clear hR hA hkk hc
          go_wp2
          go_roundw
          case rel =>
            refine ⟨k + 1, upd f c (f c + 1), by omega, by go_num, (unhide HR).other (Nat.le_refl _) _, ?_, fun b hb => ?_⟩
            · rw [unhide HC]; exact (unhide HA).set c (f c + 1)
            · have e := unhide HKK
              rw [unhide HC] at e
              rw [take_snoc D a m k hm hkm', List.countP_append]
              by_cases hbc : b = c
              · subst hbc; rw [upd_same, unhide HF b hb]; simp [← e]
              · rw [upd_other _ _ _ _ hbc, unhide HF b hb]; simp [← e, Ne.symm hbc]
          case measure => simp [RowKit.intOf]; omega
        · obtain rfl : m = k := by omega
          have hA2 : ∀ o1 o2, ((wr.alloc o1).alloc o2).heap[w.heap.size]? = some (.cells (tab f) 34 (0, 0)) := fun o1 o2 => (hA.alloc o1).alloc o2
          clear hR hA hcw
          go_wp2_with (first | (refine wpList_load_row rfl 34 _ rfl w.heap.size rfl 34 (tab f) (0, 0) _ (hA2 _ _) Yba.underlying34 rfl (by rw [size_tab]; kernel_rfl) ?_))
          have hA3 := (unhide HA)
          have hszr := (unhide HR).size
          have hbw : blk < w.heap.size := blk_lt (unhide HH) (show a < D.size by omega)
          have hB0 : w.heap.size < wr.heap.size := hA3.lt
          have hf5 : ∀ b, b < 256 → bel s (win D a m) (b + 1) = bel s (win D a m) b + f b := fun b hb => by
            rw [bel_succ, unhide HF b hb, List.take_of_length_le (by rw [win_length D a m hm]; exact Nat.le_refl _)]
          have hbm : ∀ b, b ≤ 256 → bel s (win D a m) b ≤ m := fun b hb => by have := bel_le s (win D a m) hb; rw [win_length D a m hm] at this; exact this
          have hidx : ∀ (b : Nat) (wx : World), b < 256 → (Instr.index 34 (.agg (tab f)) (.int .i64 (b : Int))).run Yba.prog wx = .ok (.int .i64 (f b : Int)) wx := fun b wx hb => index_tab f b hb wx
          have hR5 : Row w ((wr.alloc (.cells (tab fun _ => 0) 34)).alloc (.cells (tab fun _ => 0) 34)) blk off D := ((unhide HR).alloc _).alloc _
          have hN5 : Arr ((wr.alloc (.cells (tab fun _ => 0) 34)).alloc (.cells (tab fun _ => 0) 34)) wr.heap.size (fun _ => 0) := Arr.alloc (heap_alloc_new wr _) _
          have hE5 : Arr ((wr.alloc (.cells (tab fun _ => 0) 34)).alloc (.cells (tab fun _ => 0) 34)) (wr.heap.size + 1) (fun _ => 0) := by
            have := heap_alloc_new (wr.alloc (.cells (tab fun _ => 0) 34)) (.cells (tab fun _ => 0) 34)
            rw [show (wr.alloc (.cells (tab fun _ => 0) 34)).heap.size = wr.heap.size + 1 by simp] at this
            exact this
          generalize (wr.alloc (.cells (tab fun _ => 0) 34)).alloc (.cells (tab fun _ => 0) 34) = wa at hR5 hN5 hE5 ⊢
          generalize wr.heap.size = nb at *
          have H5 := hide hf5
          have HBM := hide hbm
          have HR5 := hide hR5
          have HN5 := hide hN5
          have HE5 := hide hE5
          have HIX := hide hidx
          clear hf5 hbm hR5 hN5 hE5 hidx hA2 hA3 HF HA HR
          go_loopw [13, 98] (fun vs vi wx => ∃ (b : Nat) (g h : Nat → Nat), b ≤ 256 ∧ vi = .int .i64 b ∧ vs = .int .i64 (bel s (win D a m) b : Nat) ∧ Row w wx blk off D ∧ Arr wx nb g ∧ Arr wx (nb + 1) h ∧
              ∀ c, c < b → g c = bel s (win D a m) c ∧ h c = bel s (win D a m) (c + 1)) (fun _ vi _ => 256 - (RowKit.intOf vi).toNat)
          case atStart => exact ⟨0, _, _, Nat.zero_le _, rfl, by rw [bel_zero]; rfl, unhide HR5, unhide HN5, unhide HE5, fun c hc => by omega⟩
          case round =>
            obtain ⟨b, g, h, hb, rfl, rfl, hR6, hG6, hE6, hgh⟩ := hrel
            by_cases hb256 : b < 256
            · have q1 := hG6.cell hb256
              have q2 := hG6.frozen b
              have q3 := hE6.cell hb256
              have q4 := hE6.frozen b
              have q5 := unhide H5 b hb256
              have q6 := unhide HBM b (by omega)
              have q7 := unhide HBM (b + 1) (by omega)
              have q8 := fun wx => unhide HIX b wx hb256
              generalize hz : bel s (win D a m) b = z at *
              have Q5 := hide q5
              have HZ := hide hz
              have hfb : f b ≤ 1048576 := by omega
              have HR6 := hide hR6
              have HG6 := hide hG6
              have HE6 := hide hE6
              have HGH := hide hgh
              clear q5 q7 hR6 hG6 hE6 hgh hz
              go_wp2
              go_roundw
              case rel =>
                go_light
                have ez : ((z : Int) + (f b : Int)) = ((z + f b : Nat) : Int) := by omega
                refine ⟨b + 1, upd g b z, upd h b (z + f b), by omega, by go_num, by rw [unhide Q5, ez], ((unhide HR6).other hszr _).other (by simp; omega) _, ?_, ?_, fun c hc => ?_⟩
                · exact ((unhide HG6).set b z).other (by simp) _
                · rw [ez]; exact ((unhide HE6).other (p := ⟨nb, b, none⟩) (by simp) _).set b (z + f b)
                · by_cases hcb : c = b
                  · subst hcb; rw [upd_same, upd_same]; exact ⟨(unhide HZ).symm, (unhide Q5).symm⟩
                  · rw [upd_other _ _ _ _ hcb, upd_other _ _ _ _ hcb]; exact unhide HGH c (by omega)
              case measure => simp [RowKit.intOf]; omega
            · obtain rfl : b = 256 := by omega
              have hG7 : Arr wr nb (bel s (win D a m)) := hG6.congr (fun c hc => (hgh c hc).1.symm)
              have hE7 : Arr wr (nb + 1) (fun c => bel s (win D a m) (c + 1)) := hE6.congr (fun c hc => (hgh c hc).2.symm)
              have HR6 := hide hR6
              have HG7 := hide hG7
              have HE7 := hide hE7
              clear hR6 hG6 hE6 hgh hG7 hE7 HR5 HN5 HE5 HIX H5
              have h7 : In7 s a m 0 nb blk off D w wr D (bel s (win D a m)) := ⟨Part.start, unhide HR6, unhide HG7, unhide HE7, fun c hc => by omega⟩
              have H7 := Box.mk h7
              clear h7 HR6 HG7 HE7
              go_wp2_with fail
              refine loop6 _ blk off cap a m s nb D w (unhide HH) hm hbig hs56 hszr hbw wr _ _ _ _ _ _ _ _ _ _ _ _ _ _ _ _ _ _ _ _ _ _ _ _ _ _ _ _ _ _ _ _ _ _ _ _ _ _ _ _ _ _ _ _ _ _ _ _ _ _ _ _ _ _ _ _ _ _ _ _ _ _ _ _ _ _ _ _ _ _ _ _ _ _ _ _ _ _ _ _ _ _ _ _ _ _ _ _ _ _ _ _ _ _ _ _ _ _ _ _ _ _ _ _ _ _ _ _ _ _ _ _ _ _ _ _ _ H7.out ?_
              clear H7 hsn hz34 hn64 hn1 HLN hX2 hkm hkm' 
              intro E wx v16 v17 v18 v113 v114 v115 v116 v117 v118 v119 v120 v121 v122 v123 v124 v125 v126 v127 v128 v129 v130 v131 v132 v133 v134 v135 v136 v137 v138 v139 v140 v141 v142 v143 v144 v145 v146 v147 v148 v149 v150 v151 v152 v153 v154 v155 v156 v157 v158 v159 v160 v161 v162 v163 v164 v165 v166 v167 v168 hDl hRw hEn
              have hEn1 : wx.heap[nb + 1]? = some (.cells (tab fun c => bel s (win D a m) (c + 1)) 34 (0, 0)) := hEn
              have HDL := hide hDl
              have HRW := hide hRw
              clear hDl hRw hEn
              go_wp2_with (first | (refine wpList_load_row rfl 34 _ rfl (nb + 1) rfl 34 (tab fun c => bel s (win D a m) (c + 1)) (0, 0) _ hEn1 Yba.underlying34 rfl (by rw [size_tab]; kernel_rfl) ?_))
              have hidx : ∀ (c : Nat) (wy : World), c < 256 → (Instr.index 34 (.agg (tab fun c => bel s (win D a m) (c + 1))) (.int .i64 (c : Int))).run Yba.prog wy = .ok (.int .i64 (bel s (win D a m) (c + 1) : Nat)) wy := fun c wy hc => index_tab _ c hc wy
              have HIX := hide hidx
              clear hidx hEn1
              go_loopw [19, 170] (fun vs vi wy => ∃ (c : Nat) (E : Array Nat), c ≤ 256 ∧ vi = .int .i64 c ∧ vs = .int .i64 (bel s (win D a m) c : Nat) ∧ Deal s a m D E c ∧ Row w wy blk off E) (fun _ vi _ => 256 - (RowKit.intOf vi).toNat)
              case atStart => exact ⟨0, E, Nat.zero_le _, rfl, by rw [bel_zero]; rfl, unhide HDL, unhide HRW⟩
              case round =>
                clear HDL HRW
                obtain ⟨c, E, hc, rfl, rfl, hDl, hRw⟩ := hrel
                by_cases hc256 : c < 256
                · have q5 := bel_mono s (win D a m) (Nat.le_succ c)
                  have q6 := unhide HBM c (by omega)
                  have q7 := unhide HBM (c + 1) (by omega)
                  have q8 := fun wy => unhide HIX c wy hc256
                  have q9 := unhide HSM c
                  have q10 := bel_succ s (win D a m) c
                  rw [win_length D a m hm] at q9
                  obtain ⟨p, hp⟩ : ∃ p, bel s (win D a m) c = p := ⟨_, rfl⟩
                  obtain ⟨z, hz⟩ : ∃ z, bel s (win D a m) (c + 1) = z := ⟨_, rfl⟩
                  rw [hp] at q5 q6 q10 ⊢
                  rw [hz] at q5 q7 q10
                  simp only [hz] at q8
                  have hzp : z - p < m := by omega
                  have HDL := hide hDl
                  have HRW := hide hRw
                  have HPP := hide hp
                  have HZZ := hide hz
                  clear hDl hRw hp hz q9 q10
                  by_cases hone : 1 < z - p
                  · go_wp2_with fail
                    refine (sub_call ih.out (unhide HH) hm hcap hbig (unhide HN) (unhide HU) (unhide HDL) (unhide HRW) hc256 (unhide HPP) (unhide HZZ) hzp).mono ?_
                    rintro e wz ⟨rfl, E', hD', hR'⟩
                    have HD2 := hide hD'
                    have HR2 := hide hR'
                    clear hD' hR' HDL HRW
                    go_wp2
                    go_roundw
                    case rel => exact ⟨c + 1, E', by omega, by go_num, by rw [unhide HZZ], unhide HD2, unhide HR2⟩
                    case measure => simp [RowKit.intOf]; omega
                  · go_wp2
                    go_roundw
                    case rel =>
                      refine ⟨c + 1, E, by omega, by go_num, by rw [unhide HZZ], ?_, unhide HRW⟩
                      exact (unhide HDL).one (by rw [unhide HPP, unhide HZZ]; omega)
                    case measure => simp [RowKit.intOf]; omega
                · obtain rfl : c = 256 := by omega
                  have HDL := hide hDl
                  have HRW := hide hRw
                  clear hDl hRw
                  go_wp2
                  go_end0
                  exact ⟨rfl, E, (unhide HDL).perm, (unhide HDL).done hm (unhide HHI), unhide HRW⟩

theorem sorts : ∀ m, Good m := by
  intro m
  induction m using Nat.strongRecOn with
  | _ m ih =>
    intro blk off cap a adr D w hadr hH hm hcap hbig hnd hu
    subst hadr
    by_cases h48 : m < 48
    · refine (short blk off cap a m D w hH hm h48).mono ?_
      rintro e w' ⟨he, hR⟩
      have h := insertionSort_holds (lt := ltN) swo_ltN D a (a + m) (by omega) hm
      exact ⟨he, _, h.1, h.2, hR⟩
    · exact long blk off cap a m D w ⟨ih⟩ hH hm h48 hcap hbig hnd hu
end Go.Proofs.Ybulkzss.W
