/-
  The walk of LawS1290BSame: every slice of at most 1024 picks; a key that was met before, a new one.
-/
import Derived.Test.YbulkzrqInv
import Derived.LoopTactic
import Derived.OpenShut
namespace Go.Proofs.Ybulkzrq.Ledger
open Go.RowKit Go.Maps
theorem names_at {w wr : World} {k : Nat} {vk vp : Value} {ks : List (ByteArray × ByteArray)} {ps : List Nat} (h : Inv w wr k vk vp ks ps) (i : Int) (h0 : 0 ≤ i) (h3 : i < 3) :
    ∃ s : ByteArray, s.size ≤ 1 ∧ wr.cell? ⟨w.heap.size, i.toNat, none⟩ = some (.string s) := by
  have hc : ∀ j, wr.cell? ⟨w.heap.size, j, none⟩ = (#[.string ⟨#[]⟩, .string ⟨#[97]⟩, .string ⟨#[98]⟩] : Array Value)[j]? := fun j => by simp [World.cell?, h.names]
  rcases (by omega : i = 0 ∨ i = 1 ∨ i = 2) with rfl | rfl | rfl
  · exact ⟨⟨#[]⟩, by decide, by rw [hc]; rfl⟩
  · exact ⟨⟨#[97]⟩, by decide, by rw [hc]; rfl⟩
  · exact ⟨⟨#[98]⟩, by decide, by rw [hc]; rfl⟩
theorem hide {p : Prop} (h : p) : Hid p := h
theorem unhide {p : Prop} (h : Hid p) : p := h
theorem first_at (x : ByteArray × ByteArray) : ∀ (l : List (ByteArray × ByteArray)), x ∈ l → ∃ i, i < l.length ∧ l[i]? = some x ∧ ∀ j, j < i → l[j]? ≠ some x
  | [], h => by simp at h
  | y :: r, h => by
    by_cases e : y = x
    · exact ⟨0, by simp, by simp [e], fun j hj => by omega⟩
    · obtain ⟨i, h1, h2, h3⟩ := first_at x r (by simpa [Ne.symm e] using h)
      refine ⟨i + 1, by simp; omega, by simpa using h2, fun j hj => ?_⟩
      cases j with
      | zero => simpa using e
      | succ j => simpa using h3 j (by omega)
theorem of_toList {a b : ByteArray} (h : (a.toList == b.toList) = true) : a = b := by
  have h := eq_of_beq h
  rw [ByteArray.toList_eq, ByteArray.toList_eq] at h
  cases a; cases b; simp_all
theorem self (x : ByteArray) : (x.toList == x.toList) = true := by simp
theorem Inv.keyAt {w wr : World} {k : Nat} {ak : Option Addr} {nk ck : Nat} {vp : Value} {ks : List (ByteArray × ByteArray)} {ps : List Nat} (h : Inv w wr k (.slice ak nk ck) vp ks ps) (h0 : 0 < ks.length) :
    ∃ g, ak = some ⟨g, 0, none⟩ ∧ ∀ j a b, ks[j]? = some (a, b) → wr.cell? ⟨g, j * 2, none⟩ = some (.string a) ∧ wr.cell? ⟨g, j * 2 + 1, none⟩ = some (.string b) := by
  obtain ⟨a', c', e, hm, hf⟩ := row_form h.keys
  obtain ⟨g, hg, hc⟩ := hf h0
  injection e with e1 e2 e3
  subst e1
  exact ⟨g, hg, fun j a b hj => ⟨hc _ _ (kcells_at ks j a b hj).1, hc _ _ (kcells_at ks j a b hj).2⟩⟩
theorem Inv.ptrAt {w wr : World} {k : Nat} {vk : Value} {ap : Option Addr} {np cp : Nat} {ks : List (ByteArray × ByteArray)} {ps : List Nat} (h : Inv w wr k vk (.slice ap np cp) ks ps) (h0 : 0 < ps.length) :
    ∃ g, ap = some ⟨g, 0, none⟩ ∧ ∀ j p, ps[j]? = some p → wr.cell? ⟨g, j, none⟩ = some (.pointer (some ⟨p, 0, none⟩)) := by
  obtain ⟨a', c', e, hm, hf⟩ := row_form h.ptrs
  obtain ⟨g, hg, hc⟩ := hf h0
  injection e with e1 e2 e3
  subst e1
  exact ⟨g, hg, fun j p hj => hc _ _ (pcells_at ps j p hj)⟩
theorem Inv.holdAt {w wr : World} {k : Nat} {vk vp : Value} {ks : List (ByteArray × ByteArray)} {ps : List Nat} (h : Inv w wr k vk vp ks ps) {i : Nat} {a b : ByteArray} {p : Nat} (h1 : ks[i]? = some (a, b)) (h2 : ps[i]? = some p) :
    wr.cell? ⟨p, 0, none⟩ = some (.string a) ∧ wr.cell? ⟨p, 1, none⟩ = some (.string b) := by
  have hh := h.hold i a b p h1 h2
  constructor
  · simp [World.cell?, hh, holdCells]
  · simp [World.cell?, hh, holdCells]
theorem Inv.ledAt {w wr : World} {k : Nat} {vk vp : Value} {ks : List (ByteArray × ByteArray)} {ps : List Nat} (h : Inv w wr k vk vp ks ps) : wr.cell? ⟨w.heap.size + 1 + 1, 0, none⟩ = some (.map (some (w.heap.size + 1))) := by
  simp [World.cell?, h.led]
theorem info27 : (Yba.prog.info? 27).map (fun i => (i.zero, i.size, i.bytes)) = some (some (.agg #[.string ⟨#[]⟩, .string ⟨#[]⟩]), 2, 32) := by kernel_rfl
theorem info24 : (Yba.prog.info? 24).map (fun i => (i.zero, i.size, i.bytes)) = some (some (.pointer none), 1, 8) := by kernel_rfl
theorem one_two (a b : ByteArray) : ∀ u ∈ [Value.string a, .string b], u.oneCell' = true := by simp [Value.oneCell']
theorem one_ptr (p : Addr) : ∀ u ∈ [Value.pointer (some p)], u.oneCell' = true := by simp [Value.oneCell']
/-- Behind the ledger's store both rows and every holding are as they were. -/
theorem Inv.carry {w wr w1 : World} {k : Nat} {vk vp : Value} {ks : List (ByteArray × ByteArray)} {ps : List Nat} (h : Inv w wr k vk vp ks ps) (hg : wr.grownBy w1 (some (w.heap.size + 1))) :
    w1.ownsRow (w.heap.size + 3) 27 2 vk ks.length (kcells ks) ∧ w1.ownsRow (w.heap.size + 3) 24 1 vp ps.length (pcells ps) ∧ ∀ (i q : Nat), ps[i]? = some q → q < wr.heap.size ∧ ∃ c, w1.heap[q]? = some (.cells c 33) := by
  obtain ⟨D, hD, _⟩ := h.map
  obtain ⟨es, cl, hmb, _⟩ := hD
  refine ⟨h.keys.kept hg (Or.inr (fun e => row_ne_block h.keys hmb (fun _ _ e => by cases e) e.symm)), h.ptrs.kept hg (Or.inr (fun e => row_ne_block h.ptrs hmb (fun _ _ e => by cases e) e.symm)), fun i q hq => ?_⟩
  have hi : i < ks.length := by rw [h.len]; exact (List.getElem?_eq_some_iff.1 hq).1
  have hh := h.hold i ks[i].1 ks[i].2 q (List.getElem?_eq_getElem hi) hq
  refine ⟨heap_lt hh, _, (hg.block q (heap_lt hh) (fun e => ?_)).trans hh⟩
  injection e with e
  rw [e, hmb] at hh
  cases hh
theorem keyAt_row {w : World} {base : Nat} {ak : Option Addr} {nk ck : Nat} {ks : List (ByteArray × ByteArray)} (h : w.ownsRow base 27 2 (.slice ak nk ck) ks.length (kcells ks)) (h0 : 0 < ks.length) :
    ∃ g, ak = some ⟨g, 0, none⟩ ∧ ∀ j a b, ks[j]? = some (a, b) → w.cell? ⟨g, j * 2, none⟩ = some (.string a) ∧ w.cell? ⟨g, j * 2 + 1, none⟩ = some (.string b) := by
  obtain ⟨a', c', e, hm, hf⟩ := row_form h
  obtain ⟨g, hg, hc⟩ := hf h0
  injection e with e1 e2 e3
  subst e1
  exact ⟨g, hg, fun j a b hj => ⟨hc _ _ (kcells_at ks j a b hj).1, hc _ _ (kcells_at ks j a b hj).2⟩⟩
theorem ptrAt_row {w : World} {base : Nat} {ap : Option Addr} {np cp : Nat} {ps : List Nat} (h : w.ownsRow base 24 1 (.slice ap np cp) ps.length (pcells ps)) (h0 : 0 < ps.length) :
    ∃ g, ap = some ⟨g, 0, none⟩ ∧ ∀ j p, ps[j]? = some p → w.cell? ⟨g, j, none⟩ = some (.pointer (some ⟨p, 0, none⟩)) := by
  obtain ⟨a', c', e, hm, hf⟩ := row_form h
  obtain ⟨g, hg, hc⟩ := hf h0
  injection e with e1 e2 e3
  subst e1
  exact ⟨g, hg, fun j p hj => hc _ _ (pcells_at ps j p hj)⟩
theorem grown_hit (w : World) (o : Obj) (m : Nat) : w.grownBy ((w.alloc o).drewN m) none := ⟨rfl, rfl, rfl, by simp, fun k hk _ => Below.heap_alloc w o k hk⟩

set_option maxRecDepth 1000000 in
set_option maxHeartbeats 1000000 in
theorem same (a0 : Option Addr) (len0 cap0 : Nat) (w : World) (hl : ¬ 1024 < len0) (hc : ∀ i, i < len0 → ∃ b off p, a0 = some ⟨b, off, none⟩ ∧ w.cell? ⟨b, off + i, none⟩ = some (.int .u16 p) ∧ 0 ≤ p ∧ p ≤ 65535) :
    Calls Yba.prog 4 #[.slice a0 len0 cap0] w fun e w' => e = .returned (.bool true) ∧ Below w.heap.size w w' := by
  go_enter Yba.func4, Yba.ntmps4
  go_wp2_with fail
  refine (newLedger _).mono ?_
  rintro e w' ⟨rfl, rfl⟩
  go_wp2_with fail
  go_loopw [5, 6, 22] (fun vk vp vi wr => ∃ (k : Nat) (ks : List (ByteArray × ByteArray)) (ps : List Nat) (ak ap : Option Addr) (ck cp : Nat), k ≤ len0 ∧ vi = .int .i64 k ∧ vk = .slice ak ks.length ck ∧ vp = .slice ap ps.length cp ∧ Inv w wr k vk vp ks ps) (fun _ _ vi _ => len0 - (intOf vi).toNat)
  case atStart => exact ⟨0, [], [], none, none, 0, 0, Nat.zero_le _, rfl, rfl, rfl, inv_start _ _ (by simp)⟩
  case round =>
    obtain ⟨k, ks, ps, ak, ap, ck, cp, hk, rfl, rfl, rfl, hI⟩ := hrel
    by_cases hlt : k < len0
    · obtain ⟨b, off, p, rfl, hck, hp0, hp1⟩ := hc k hlt
      have hb : b < w.heap.size := World.block_lt_of_cell? w ⟨b, off + k, none⟩ hck
      have hcell : wr.cell? ⟨b, off + k, none⟩ = some (.int .u16 p) := (hI.below.cell (p := ⟨b, off + k, none⟩) hb).trans hck
      clear hc hck
      obtain ⟨acc, hacc, n1⟩ := names_at hI (p % 3) (by omega) (by omega)
      obtain ⟨ass, hass, n2⟩ := names_at hI (p / 3 % 3) (by omega) (by omega)
      obtain ⟨D, hD, hsz, hno, hyes⟩ := hI.map
      have hled := hI.ledAt
      have HI := hide hI
      have HD := hide hD
      have HS := hide hsz
      have HN := hide hno
      have HY := hide hyes
      have hkl := hI.lek
      have hpl : ps.length ≤ 1024 := by rw [← hI.len]; omega
      have hself1 := self acc
      have hself2 := self ass
      clear hI hD hsz hno hyes
      by_cases hin : (acc, ass) ∈ ks
      · obtain ⟨i0, hi0, hat, hbef⟩ := first_at _ _ hin
        obtain ⟨p0, hp0'⟩ : ∃ p0, ps[i0]? = some p0 := ⟨ps[i0]'(by rw [← (unhide HI).len]; exact hi0), by simp⟩
        have hi0p : i0 < ps.length := by rw [← (unhide HI).len]; exact hi0
        have hnq := fun wx => ptr_notsame wx ⟨p0, 0, none⟩
        have HBEF := hide hbef
        have HAT := hide hat
        have HP0 := hide hp0'
        clear hin hbef hat hp0'
        go_wp2_with fail
        refine (holding_hit wr _ (w.heap.size + 1) k D acc ass (fit1 hacc) (fit1 hass) ⟨p0, 0, none⟩ hled (unhide HD) (unhide HY i0 _ _ _ (unhide HAT) (unhide HP0))).mono ?_
        rintro e w1 ⟨rfl, m, hw1⟩
        have hI1 : Inv w w1 (k + 1) _ _ ks ps := (unhide HI).kept (by rw [hw1]; exact grown_hit wr _ m)
        clear hw1 n1 n2 hcell hled
        have hc0 := (hI1.holdAt (unhide HAT) (unhide HP0)).1
        have hc1 := (hI1.holdAt (unhide HAT) (unhide HP0)).2
        obtain ⟨gk, rfl, hkc⟩ := hI1.keyAt (by omega)
        obtain ⟨gp, rfl, hpc⟩ := hI1.ptrAt (by rw [← hI1.len]; omega)
        have HKC := hide hkc
        have hpc0 := hpc _ _ (unhide HP0)
        have HI1 := hide hI1
        clear hkc hpc hI1
        go_wp2_with fail
        go_loop [12, 63] (fun f vj => ∃ j : Nat, j ≤ i0 ∧ f = .int .i64 (-1) ∧ vj = .int .i64 j) (fun _ vj => ks.length - (intOf vj).toNat)
        case atStart => exact ⟨0, Nat.zero_le _, rfl, rfl⟩
        case round =>
          obtain ⟨j, hj, rfl, rfl⟩ := hrel
          have hjl : j < ks.length := by omega
          by_cases hji : j = i0
          · subst hji
            have g1 := (unhide HKC j _ _ (unhide HAT)).1
            have g2 := (unhide HKC j _ _ (unhide HAT)).2
            go_wp2
            go_roundw
            case rel => exact ⟨k + 1, ks, ps, _, _, _, _, by omega, by go_num, rfl, rfl, unhide HI1⟩
            case measure => simp [intOf]; omega
          · obtain ⟨⟨c, d⟩, hcd⟩ : ∃ x, ks[j]? = some x := ⟨ks[j], by simp⟩
            have g1 := (unhide HKC j _ _ hcd).1
            have g2 := (unhide HKC j _ _ hcd).2
            have hne : ¬ (c = acc ∧ d = ass) := fun e => unhide HBEF j (by omega) (by rw [hcd, e.1, e.2])
            clear hcd
            by_cases q1 : (c.toList == acc.toList) = true
            · have q2 : (d.toList == ass.toList) = false := by
                cases h : (d.toList == ass.toList)
                · rfl
                · exact absurd ⟨of_toList q1, of_toList h⟩ hne
              clear hne
              go_wp2
              go_round
              case rel => exact ⟨j + 1, by omega, rfl, by go_num⟩
              case measure => simp [intOf]; omega
            · have q1' : (c.toList == acc.toList) = false := by simpa using q1
              clear hne q1
              go_wp2
              go_round
              case rel => exact ⟨j + 1, by omega, rfl, by go_num⟩
              case measure => simp [intOf]; omega
      · go_wp2_with fail
        refine (holding_miss wr _ (w.heap.size + 1) k D acc ass (fit1 hacc) (fit1 hass) (by unfold maxLen; omega) hled (unhide HD) (atKey_of_not_has (unhide HN acc ass hacc hass hin) _)).mono ?_
        rintro e w1 ⟨rfl, hown1, hblk1, hg1, hfz1⟩
        clear hfz1 n1 n2 hcell hled
        obtain ⟨keys1, ptrs1, hold1⟩ := (unhide HI).carry hg1
        have hc0 : w1.cell? ⟨wr.heap.size + 1, 0, none⟩ = some (.string acc) := by simp [World.cell?, hblk1]
        have hc1 : w1.cell? ⟨wr.heap.size + 1, 1, none⟩ = some (.string ass) := by simp [World.cell?, hblk1]
        have hsz1 := hg1.size
        have hszw := (unhide HI).below.size
        have hled1 := heap_lt (unhide HI).led
        have hlen := (unhide HI).len
        have HL := hide hlen
        have HO := hide hown1
        have HB := hide hblk1
        have HG := hide hg1
        have HH := hide hold1
        have HK := hide keys1
        have HP := hide ptrs1
        have HIN := hide hin
        obtain ⟨ik, hik, hzk0, hzk1, hzk2⟩ := info_parts info27
        obtain ⟨ip, hip, hzp0, hzp1, hzp2⟩ := info_parts info24
        clear hlen hown1 hblk1 hg1 hold1 keys1 ptrs1 hin
        go_wp2_with fail
        go_loop [12, 63] (fun f vj => ∃ j : Nat, j ≤ ks.length ∧ f = .int .i64 (-1) ∧ vj = .int .i64 j) (fun _ vj => ks.length - (intOf vj).toNat)
        case atStart => exact ⟨0, Nat.zero_le _, rfl, rfl⟩
        case round =>
          obtain ⟨j, hj, rfl, rfl⟩ := hrel
          by_cases hjl : j < ks.length
          · obtain ⟨gk, rfl, hkc⟩ := keyAt_row (unhide HK) (by omega)
            obtain ⟨⟨c, d⟩, hcd⟩ : ∃ x, ks[j]? = some x := ⟨ks[j], by simp⟩
            have g1 := (hkc j _ _ hcd).1
            have g2 := (hkc j _ _ hcd).2
            have hne : ¬ (c = acc ∧ d = ass) := fun e => unhide HIN (by rw [← e.1, ← e.2]; exact List.mem_of_getElem? hcd)
            clear hcd hkc
            by_cases q1 : (c.toList == acc.toList) = true
            · have q2 : (d.toList == ass.toList) = false := by
                cases h : (d.toList == ass.toList)
                · rfl
                · exact absurd ⟨of_toList q1, of_toList h⟩ hne
              clear hne
              go_wp2
              go_round
              case rel => exact ⟨j + 1, by omega, rfl, by go_num⟩
              case measure => simp [intOf]; omega
            · have q1' : (c.toList == acc.toList) = false := by simpa using q1
              clear hne q1
              go_wp2
              go_round
              case rel => exact ⟨j + 1, by omega, rfl, by go_num⟩
              case measure => simp [intOf]; omega
          · go_wp2_with fail
            go_loop [94] (fun vj => ∃ j : Nat, j ≤ ps.length ∧ vj = .int .i64 j) (fun vj => ps.length - (intOf vj).toNat)
            case atStart => exact ⟨0, Nat.zero_le _, rfl⟩
            case round =>
              obtain ⟨i, hi, rfl⟩ := hrel
              by_cases hil : i < ps.length
              · obtain ⟨gp, rfl, hpc⟩ := ptrAt_row (unhide HP) (by omega)
                obtain ⟨q, hq⟩ : ∃ q, ps[i]? = some q := ⟨ps[i], by simp⟩
                have g1 := hpc i q hq
                obtain ⟨hqlt, cc, hqb⟩ := unhide HH i q hq
                have hne := ptr_other (p := ⟨q, 0, none⟩) (q := ⟨wr.heap.size + 1, 0, none⟩) w1 (by intro e; injection e with e; omega) hqb (unhide HB)
                clear hqb hpc hq
                go_wp2
                go_round
                case rel => exact ⟨i + 1, by omega, by go_num⟩
                case measure => simp [intOf]; omega
              · have hk1 : w1.heap.size + 1 = (w1.alloc (.cells #[.string acc, .string ass] 27)).heap.size := by simp
                go_wp2_with (first
                  | (at_builtin; refine wpList_append_own_at _ rfl _ _ 42 rfl (w.heap.size + 3) 27 ik (.agg #[.string ⟨#[]⟩, .string ⟨#[]⟩]) 2 32 Yba.underlying42 hik hzk0 hzk1 hzk2 rfl (by decide) _ ks.length (kcells ks) rfl ((unhide HK).alloc _) ⟨w1.heap.size, 0, none⟩ 1 1 [.string acc, .string ass] rfl rfl (cell_two_new _ _ _ _) (one_two acc ass) (by unfold maxLen; omega) (by omega) (by rw [← hk1]; omega) ?_; intro vk' w3 hk3 hg3 hnil3 hloc3)
                  | (at_builtin; refine wpList_append_own_at _ rfl _ _ 43 rfl (w.heap.size + 3) 24 ip (.pointer none) 1 8 Yba.underlying43 hip hzp0 hzp1 hzp2 rfl (by decide) _ ps.length (pcells ps) rfl ?hpr ⟨w3.heap.size, 0, none⟩ 1 1 [.pointer (some ⟨wr.heap.size + 1, 0, none⟩)] rfl rfl (cell_one_new _ _ _) (one_ptr _) (by unfold maxLen; omega) (by omega) ?hbase ?_; rotate_left 2; intro vp' w5 hk5 hg5 hnil5 hloc5)
                  | go_in)
                case roundEnd =>
                  obtain ⟨ak', ck', hvk, _⟩ := row_form hk3
                  obtain ⟨ap', cp', hvp, _⟩ := row_form hk5
                  refine ⟨⟨k + 1, ks ++ [(acc, ass)], ps ++ [wr.heap.size + 1], ak', ap', ck', cp', by omega, by go_num, ?_, ?_, ?_⟩, ?_⟩
                  · rw [hvk]; simp
                  · rw [hvp]; simp
                  · exact (unhide HI).grow (unhide HD) (unhide HS) (unhide HN) (unhide HY) hacc hass (unhide HIN) (unhide HO) (unhide HB) (unhide HG) hk3 hg3 hk5 hg5
                  · simp [intOf]; omega
                case hpr => exact ((((unhide HP).alloc _).kept hg3 (rows_apart (unhide HP) (unhide HK) (by decide))).alloc _)
                case hbase => have := hg3.size; rw [← hk1] at this; omega
    · obtain ⟨D, hD, hsz, _⟩ := hI.map
      have hled := hI.ledAt
      have hlen := fun ty => hD.len Yba.underlying35 ty
      rw [hsz] at hlen
      have hbel := hI.below
      have hkl := hI.lek
      have HB := hide hbel
      clear hI hD hsz hbel hc
      go_wp2
      go_ret
      exact ⟨rfl, unhide HB⟩

end Go.Proofs.Ybulkzrq.Ledger
