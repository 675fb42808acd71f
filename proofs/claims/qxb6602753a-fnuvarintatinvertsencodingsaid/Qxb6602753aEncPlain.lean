/-
  THE PLAIN MATHEMATICS OF THE ENCODER.
-/
import Derived.Test.Qxb6602753aPlain
namespace Go.Proofs.Qxb6602753a.Uv

def shr (x : Int) (k : Nat) : Int := x / 128 ^ k
theorem shr_zero (x : Int) : shr x 0 = x := by simp [shr]
theorem shr_succ (x : Int) (k : Nat) : shr x (k + 1) = shr x k / 128 := by
  unfold shr
  rw [Int.pow_succ, Int.ediv_ediv_of_nonneg (Int.pow_nonneg (by decide))]
theorem shr_lo (x : Int) (h : 0 ≤ x) (k : Nat) : 0 ≤ shr x k := Int.ediv_nonneg h (Int.pow_nonneg (by decide))
theorem shr_hi (x : Int) (h : 0 ≤ x) (h1 : x < 18446744073709551616) : ∀ k, shr x k < 18446744073709551616 := by
  intro k
  induction k with
  | zero => rw [shr_zero]; exact h1
  | succ k ih => have := shr_lo x h k; rw [shr_succ]; omega
/-- Where a group more is to be written, few have been. -/
theorem shr_few (x : Int) (h : 0 ≤ x) (h1 : x < 18446744073709551616) (k : Nat) (hk : 128 ≤ shr x k) : k < 9 := by
  by_cases hlt : k < 9
  · exact hlt
  · exfalso
    have h9 : shr x 9 < 128 := by
      unfold shr
      simp only [Int.reducePow]
      omega
    have hd : ∀ d, shr x (9 + d) < 128 := by
      intro d
      induction d with
      | zero => exact h9
      | succ d ih => have := shr_lo x h (9 + d); rw [← Nat.add_assoc, shr_succ]; omega
    have := hd (k - 9)
    rw [show 9 + (k - 9) = k by omega] at this
    omega

/-- Byte k of the encoding whose last byte has the number t. -/
def encB (x : Int) (t k : Nat) : Int := if k < t then shr x k % 128 + 128 else shr x k

theorem encB_bd (x : Int) (h : 0 ≤ x) (t k : Nat) (hk : k ≤ t) (hl : shr x t < 128) : 0 ≤ encB x t k ∧ encB x t k < 256 := by
  unfold encB
  have := shr_lo x h k
  by_cases hlt : k < t
  · rw [if_pos hlt]; omega
  · rw [if_neg hlt]
    have : k = t := by omega
    subst this
    omega

theorem un_encB (x : Int) (h : 0 ≤ x) (t : Nat) (hl : shr x t < 128) : ∀ d i, i + d = t → un (encB x t) i (d + 1) = shr x i := by
  intro d
  induction d with
  | zero =>
    intro i hi
    have := shr_lo x h i
    obtain rfl : i = t := by omega
    simp only [un, encB]
    rw [if_neg (by omega)]
    omega
  | succ d ih =>
    intro i hi
    have h0 := shr_lo x h i
    rw [un, ih (i + 1) (by omega), shr_succ]
    unfold encB
    rw [if_pos (by omega)]
    omega

theorem uv_encB (x : Int) (h : 0 ≤ x) (h1 : x < 18446744073709551616) (t : Nat) (hl : shr x t < 128) : uv (encB x t) 0 (t + 1) = x := by
  unfold uv
  rw [un_encB x h t hl t 0 (by omega), shr_zero]
  omega

theorem encB_mid (x : Int) (t k : Nat) (hk : k < t) : 128 ≤ encB x t k := by
  unfold encB; rw [if_pos hk]; omega
theorem encB_end (x : Int) (t : Nat) (hl : shr x t < 128) : encB x t t < 128 := by
  unfold encB; rw [if_neg (by omega)]; exact hl

theorem or128 (X : Int) (_h : 0 ≤ X) : bits .or .u8 (IntKind.u8.wrap X) 128 = X % 128 + 128 := by
  rw [IntKind.wrap_u8', u8_or _ 128 (by omega) (by omega) (by omega) (by omega)]
  have key : ∀ a : Fin 256, a.val ||| 128 = a.val % 128 + 128 := by decide +kernel
  have hk := key ⟨(X % 256).toNat, by omega⟩
  simp only at hk
  rw [show (128 : Int).toNat = 128 from rfl, hk]
  omega

end Go.Proofs.Qxb6602753a.Uv
