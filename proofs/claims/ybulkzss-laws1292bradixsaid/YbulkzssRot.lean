/-
  The words of LawS1292BRadix: rotation, exclusive or and multiplication by an odd number are one-to-one; bits.RotateLeft64 walked.
-/
import Derived.Test.YbulkzssLib
import Derived.Laws.BitsAllLaws
namespace Go.Proofs.Ybulkzss.W
open Go.RowKit Go.Sort Go.Proofs.Ybulkzss.Plain

def rotN (r v : Nat) : Nat := (v * 2 ^ r % 2 ^ 64) ||| (v / 2 ^ (64 - r))

theorem rotN_eq (r v : Nat) (hr : r < 64) (hv : v < 2 ^ 64) : rotN r v = v % 2 ^ (64 - r) * 2 ^ r + v / 2 ^ (64 - r) ∧ v / 2 ^ (64 - r) < 2 ^ r := by
  have hp : 2 ^ (64 - r) * 2 ^ r = 2 ^ 64 := by rw [← Nat.pow_add]; congr 1; omega
  have hlt : v / 2 ^ (64 - r) < 2 ^ r := by
    rw [Nat.div_lt_iff_lt_mul (Nat.two_pow_pos _), Nat.mul_comm, hp]; exact hv
  refine ⟨?_, hlt⟩
  unfold rotN
  rw [← hp, Nat.mul_mod_mul_right]
  exact nat_join r _ _ (Nat.mul_mod_left _ _) hlt
theorem rotN_lt (r v : Nat) (hv : v < 2 ^ 64) : rotN r v < 2 ^ 64 := by
  unfold rotN
  refine Nat.or_lt_two_pow (Nat.mod_lt _ (Nat.two_pow_pos 64)) ?_
  exact Nat.lt_of_le_of_lt (Nat.div_le_self _ _) hv
theorem rotN_inj {r v u : Nat} (hr : r < 64) (hv : v < 2 ^ 64) (hu : u < 2 ^ 64) (h : rotN r v = rotN r u) : v = u := by
  obtain ⟨e1, l1⟩ := rotN_eq r v hr hv
  obtain ⟨e2, l2⟩ := rotN_eq r u hr hu
  rw [e1, e2] at h
  have hc := Nat.two_pow_pos r
  have d1 : (v % 2 ^ (64 - r) * 2 ^ r + v / 2 ^ (64 - r)) / 2 ^ r = v % 2 ^ (64 - r) := by
    rw [Nat.mul_comm, Nat.mul_add_div hc, Nat.div_eq_of_lt l1, Nat.add_zero]
  have d2 : (u % 2 ^ (64 - r) * 2 ^ r + u / 2 ^ (64 - r)) / 2 ^ r = u % 2 ^ (64 - r) := by
    rw [Nat.mul_comm, Nat.mul_add_div hc, Nat.div_eq_of_lt l2, Nat.add_zero]
  have a : v % 2 ^ (64 - r) = u % 2 ^ (64 - r) := by rw [← d1, ← d2, h]
  rw [a] at h
  have b : v / 2 ^ (64 - r) = u / 2 ^ (64 - r) := Nat.add_left_cancel h
  rw [← Nat.div_add_mod v (2 ^ (64 - r)), ← Nat.div_add_mod u (2 ^ (64 - r)), a, b]

theorem odd_or (x : Nat) : (x ||| 1) % 2 = 1 := by
  have h := Nat.or_mod_two_pow (a := x) (b := 1) (n := 1)
  rw [Nat.pow_one] at h
  rw [h]
  rcases Nat.mod_two_eq_zero_or_one x with e | e <;> rw [e] <;> rfl
theorem mul_inj {M t u : Nat} (hM : M % 2 = 1) (ht : t < 2 ^ 64) (hu : u < 2 ^ 64) (h : t * M % 2 ^ 64 = u * M % 2 ^ 64) : t = u := by
  have hco : Nat.Coprime (2 ^ 64) M := by
    refine Nat.Coprime.pow_left 64 ?_
    rw [Nat.Coprime, Nat.gcd_rec, hM]
    rfl
  rcases Nat.le_total t u with hle | hle
  · have hd : 2 ^ 64 ∣ (u - t) * M := by
      rw [Nat.sub_mul]
      exact Nat.dvd_of_mod_eq_zero (Nat.sub_mod_eq_zero_of_mod_eq h.symm)
    have hd2 := hco.dvd_of_dvd_mul_right hd
    have := Nat.eq_zero_of_dvd_of_lt hd2 (by omega)
    omega
  · have hd : 2 ^ 64 ∣ (t - u) * M := by
      rw [Nat.sub_mul]
      exact Nat.dvd_of_mod_eq_zero (Nat.sub_mod_eq_zero_of_mod_eq h)
    have hd2 := hco.dvd_of_dvd_mul_right hd
    have := Nat.eq_zero_of_dvd_of_lt hd2 (by omega)
    omega
theorem xor_inj {x u v : Nat} (h : x ^^^ u = x ^^^ v) : u = v := by
  have e : ∀ y, x ^^^ (x ^^^ y) = y := fun y => by rw [← Nat.xor_assoc, Nat.xor_self, Nat.zero_xor]
  rw [← e u, ← e v, h]

/-- The t-th word. -/
def word (X M r t : Nat) : Nat := rotN r (X ^^^ (t * M % 2 ^ 64))
theorem word_mid (X M t : Nat) (hX : X < 2 ^ 64) : X ^^^ (t * M % 2 ^ 64) < 2 ^ 64 := Nat.xor_lt_two_pow hX (Nat.mod_lt _ (Nat.two_pow_pos 64))
theorem word_lt (X M r t : Nat) (hX : X < 2 ^ 64) : word X M r t < 2 ^ 64 := rotN_lt r _ (word_mid X M t hX)
theorem word_inj {X M r t u : Nat} (hX : X < 2 ^ 64) (hM : M % 2 = 1) (hr : r < 64) (ht : t < 2 ^ 64) (hu : u < 2 ^ 64) (h : word X M r t = word X M r u) : t = u :=
  mul_inj hM ht hu (xor_inj (rotN_inj hr (word_mid X M t hX) (word_mid X M u hX) h))

theorem rot_bits (v r : Nat) (hv : v < 2 ^ 64) : bits .or .u64 (IntKind.u64.wrap ((v : Int) * 2 ^ r)) ((v : Int) / 2 ^ (64 - r)) = ((rotN r v : Nat) : Int) := by
  have e1 : IntKind.u64.wrap ((v : Int) * 2 ^ r) = ((v * 2 ^ r % 2 ^ 64 : Nat) : Int) := by
    rw [IntKind.wrap_u64, show ((2 : Int) ^ r) = ((2 ^ r : Nat) : Int) from (Int.natCast_pow 2 r).symm, ← Int.natCast_mul]
    exact (Int.natCast_emod _ _).symm
  have e2 : ((v : Int) / 2 ^ (64 - r)) = ((v / 2 ^ (64 - r) : Nat) : Int) := by
    rw [show ((2 : Int) ^ (64 - r)) = ((2 ^ (64 - r) : Nat) : Int) from (Int.natCast_pow 2 _).symm, ← Int.natCast_ediv]
  rw [e1, e2, u64_or_nat _ _ (Nat.mod_lt _ (Nat.two_pow_pos 64)) (Nat.lt_of_le_of_lt (Nat.div_le_self _ _) hv)]
  rfl
theorem and63 (r : Nat) (hr : r < 64) : bits .and .u64 (r : Int) 63 = (r : Int) := by
  rw [show (63 : Int) = ((63 : Nat) : Int) from rfl, u64_and_nat r 63 (by omega) (by omega)]
  rw [nat_mask6, Nat.mod_eq_of_lt hr]

/-- bits.RotateLeft64. -/
theorem rot (v r : Nat) (w : World) (hv : v < 2 ^ 64) (hr : r < 64) :
    Calls Yba.prog 9 #[.int .u64 (v : Int), .int .i64 (r : Int)] w fun e w' => e = .returned (.int .u64 ((rotN r v : Nat) : Int)) ∧ w = w' := by
  have h63 := and63 r hr
  have HV := hide (rot_bits v r hv)
  clear hv
  go_enter Yba.func9, Yba.ntmps9
  go_wp2
  go_ret
  exact ⟨by rw [← unhide HV]; rfl, rfl⟩
end Go.Proofs.Ybulkzss.W
