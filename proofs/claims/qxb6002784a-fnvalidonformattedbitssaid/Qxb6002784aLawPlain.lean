/-
  THE PLAIN LAWS BEHIND FnValidOnFormattedBits.
-/
import Derived.Test.Qxb6002784aFmtPlain
namespace Go.Proofs.Qxb6002784a

theorem g_ok (hi lo : Int) (i : Nat) : (48 ≤ hexc (nib hi lo i) ∧ hexc (nib hi lo i) ≤ 57) ∨ (97 ≤ hexc (nib hi lo i) ∧ hexc (nib hi lo i) ≤ 102) :=
  hexc_ok (nib_bd hi lo i).1 (nib_bd hi lo i).2

theorem P_bd (hi lo : Int) (j : Nat) : 0 ≤ P (fun i => hexc (nib hi lo i)) j ∧ P (fun i => hexc (nib hi lo i)) j < 256 := by
  have hg : ∀ i, 0 ≤ hexc (nib hi lo i) ∧ hexc (nib hi lo i) < 256 := fun i => by have := g_ok hi lo i; omega
  unfold P
  repeat' split
  all_goals first | omega | exact hg _

/-- The text is valid just where the version is 7 and the variant is 10. -/
theorem vd_text (hi lo : Int) : Vd (text fun i => hexc (nib hi lo i)) ↔ nib hi lo 12 = 7 ∧ 8 ≤ nib hi lo 16 ∧ nib hi lo 16 ≤ 11 := by
  have hb12 := nib_bd hi lo 12
  have hb16 := nib_bd hi lo 16
  constructor
  · rintro ⟨_, h⟩
    have h14 := (h 14 (by omega)).v rfl
    have h19 := (h 19 (by omega)).r rfl
    rw [text_at _ (fun i _ => P_bd hi lo i) 14 (by omega), P_14] at h14
    rw [text_at _ (fun i _ => P_bd hi lo i) 19 (by omega), P_19] at h19
    simp only [hexc] at h14 h19
    refine ⟨?_, ?_, ?_⟩
    · split at h14 <;> omega
    · split at h19 <;> omega
    · split at h19 <;> omega
  · rintro ⟨h12, h16a, h16b⟩
    refine ⟨text_size _, fun i hi' => ?_⟩
    rw [text_at _ (fun i _ => P_bd hi lo i) i hi']
    refine P_ok _ (fun i _ => g_ok hi lo i) ?_ ?_ i hi'
    · show hexc (nib hi lo 12) = 55
      rw [h12]; rfl
    · show hexc (nib hi lo 16) = 56 ∨ hexc (nib hi lo 16) = 57 ∨ hexc (nib hi lo 16) = 97 ∨ hexc (nib hi lo 16) = 98
      unfold hexc
      split <;> omega

theorem nib12 (hi lo : Int) : nib hi lo 12 = hi / 4096 % 16 := by unfold nib; rw [if_pos (by omega)]; rfl
theorem nib16 (hi lo : Int) : nib hi lo 16 = lo / 1152921504606846976 % 16 := by unfold nib; rw [if_neg (by omega)]; rfl

theorem raw_want (hi lo : Int) (_h0 : 0 ≤ hi) (l0 : 0 ≤ lo) (l1 : lo < 18446744073709551616) : Vd (text fun i => hexc (nib hi lo i)) ↔ hi / 4096 % 16 = 7 ∧ lo / 4611686018427387904 = 2 := by
  rw [vd_text, nib12, nib16]
  constructor <;> intro h <;> refine ⟨h.1, ?_⟩ <;> omega

/-- The version forced. -/
theorem force_hi (hi : Int) (h0 : 0 ≤ hi) (h1 : hi < 18446744073709551616) :
    0 ≤ bits .or .u64 (bits .andNot .u64 hi 61440) 28672 ∧ bits .or .u64 (bits .andNot .u64 hi 61440) 28672 < 18446744073709551616 ∧ bits .or .u64 (bits .andNot .u64 hi 61440) 28672 / 4096 % 16 = 7 := by
  obtain ⟨x, rfl⟩ := Int.eq_ofNat_of_zero_le h0
  have hx : x < 18446744073709551616 := by omega
  have e1 : bits .andNot .u64 (x : Int) 61440 = ((x &&& 18446744073709490175 : Nat) : Int) := u64_andNot_nat x 61440 hx (by decide)
  have hy : x &&& 18446744073709490175 < 18446744073709551616 := Nat.lt_of_le_of_lt Nat.and_le_left hx
  have e2 : bits .or .u64 ((x &&& 18446744073709490175 : Nat) : Int) 28672 = (((x &&& 18446744073709490175) ||| 28672 : Nat) : Int) := u64_or_nat _ 28672 hy (by decide)
  rw [e1, e2]
  have hz : (x &&& 18446744073709490175) ||| 28672 < 2 ^ 64 := Nat.or_lt_two_pow (by omega) (by decide)
  refine ⟨by omega, by omega, ?_⟩
  have key : ((x &&& 18446744073709490175) ||| 28672) / 2 ^ 12 % 2 ^ 4 = 7 := by
    rw [← Nat.shiftRight_eq_div_pow, ← Nat.and_two_pow_sub_one_eq_mod, Nat.shiftRight_or_distrib, Nat.shiftRight_and_distrib, Nat.and_or_distrib_right, Nat.and_assoc]
    simp
  omega

/-- The variant forced. -/
theorem force_lo (lo : Int) (h0 : 0 ≤ lo) (h1 : lo < 18446744073709551616) :
    0 ≤ bits .or .u64 (bits .andNot .u64 lo 13835058055282163712) 9223372036854775808 ∧ bits .or .u64 (bits .andNot .u64 lo 13835058055282163712) 9223372036854775808 < 18446744073709551616 ∧
      8 ≤ bits .or .u64 (bits .andNot .u64 lo 13835058055282163712) 9223372036854775808 / 1152921504606846976 % 16 ∧ bits .or .u64 (bits .andNot .u64 lo 13835058055282163712) 9223372036854775808 / 1152921504606846976 % 16 ≤ 11 := by
  obtain ⟨x, rfl⟩ := Int.eq_ofNat_of_zero_le h0
  have hx : x < 18446744073709551616 := by omega
  have e1 : bits .andNot .u64 (x : Int) 13835058055282163712 = ((x &&& 4611686018427387903 : Nat) : Int) := u64_andNot_nat x 13835058055282163712 hx (by decide)
  have hy : x &&& 4611686018427387903 ≤ 4611686018427387903 := Nat.and_le_right
  have e2 : bits .or .u64 ((x &&& 4611686018427387903 : Nat) : Int) 9223372036854775808 = (((x &&& 4611686018427387903) ||| 9223372036854775808 : Nat) : Int) := u64_or_nat _ 9223372036854775808 (by omega) (by decide)
  rw [e1, e2]
  have e3 : (x &&& 4611686018427387903) ||| 9223372036854775808 = 9223372036854775808 + (x &&& 4611686018427387903) := by
    rw [Nat.or_comm]
    exact nat_join 63 _ _ (by decide) (by omega)
  rw [e3]
  omega

/-- The bytes with the letters turned to capitals. -/
def upc (c : Int) : Int := if 97 ≤ c ∧ c ≤ 102 then c - 32 else c
theorem upc_no (c : Int) (i : Nat) (h : 97 ≤ c ∧ c ≤ 102) : ¬ okV i (upc c) := by
  intro ho
  unfold upc at ho
  rw [if_pos h] at ho
  by_cases hd : dash i
  · have := ho.d hd; omega
  by_cases h14 : i = 14
  · have := ho.v h14; omega
  by_cases h19 : i = 19
  · have := ho.r h19; omega
  have := ho.o hd h14 h19
  omega

end Go.Proofs.Qxb6002784a
