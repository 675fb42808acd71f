/-
  THE PLAIN MATHEMATICS OF A VARINT: no Go in sight. Bytes go by a function 'B' of their index.
-/
import Derived.Laws.BitsAllLaws
namespace Go.Proofs.Qxb6602753a.Uv

/-- The 7-bit groups of n bytes from place i on, each times 128^k: unbounded. -/
def un (B : Nat → Int) (i : Nat) : Nat → Int
  | 0 => 0
  | n + 1 => B i % 128 + 128 * un B (i + 1) n

/-- The same in a uint64. -/
def uv (B : Nat → Int) (i n : Nat) : Int := un B i n % 18446744073709551616

theorem un_snoc (B : Nat → Int) (n : Nat) : ∀ i, un B i (n + 1) = un B i n + B (i + n) % 128 * 128 ^ n := by
  induction n with
  | zero => intro i; simp [un]
  | succ n ih =>
    intro i
    have h := ih (i + 1)
    rw [un, h, un, show i + 1 + n = i + (n + 1) by omega, Int.pow_succ]
    generalize B (i + (n + 1)) % 128 = g
    generalize (128 : Int) ^ n = p
    generalize un B (i + 1) n = u
    rw [Int.mul_add, ← Int.mul_assoc, ← Int.mul_assoc, Int.mul_comm 128 g, Int.mul_assoc g 128 p, Int.mul_assoc g p 128, Int.mul_comm p 128]
    omega

theorem un_lo (B : Nat → Int) (n : Nat) : ∀ i, 0 ≤ un B i n := by
  induction n with
  | zero => intro i; simp [un]
  | succ n ih => intro i; have := ih (i + 1); rw [un]; omega

theorem un_hi (B : Nat → Int) (n : Nat) : ∀ i, un B i n < 128 ^ n := by
  induction n with
  | zero => intro i; simp [un]
  | succ n ih => intro i; have := ih (i + 1); rw [un, Int.pow_succ]; omega

theorem uv_lo (B : Nat → Int) (i n : Nat) : 0 ≤ uv B i n := by unfold uv; omega
theorem uv_hi (B : Nat → Int) (i n : Nat) : uv B i n < 18446744073709551616 := by unfold uv; omega
theorem uv_one (B : Nat → Int) (i : Nat) : uv B i 1 = B i % 128 := by simp only [uv, un]; omega

/-- A shift of the bytes. -/
theorem un_shift (B : Nat → Int) (d n : Nat) : ∀ i, un (fun k => B (d + k)) i n = un B (d + i) n := by
  induction n with
  | zero => intro i; rfl
  | succ n ih => intro i; rw [un, un, ih (i + 1), Nat.add_assoc d i 1]

theorem un_congr {B C : Nat → Int} (n : Nat) : ∀ i, (∀ k, k < n → B (i + k) = C (i + k)) → un B i n = un C i n := by
  induction n with
  | zero => intro i _; rfl
  | succ n ih =>
    intro i h
    rw [un, un, ih (i + 1) (fun k hk => by have := h (k + 1) (by omega); rwa [show i + (k + 1) = i + 1 + k by omega] at this), show B i = C i from h 0 (by omega)]

theorem uv_shift (B : Nat → Int) (d i n : Nat) : uv (fun k => B (d + k)) i n = uv B (d + i) n := by rw [uv, un_shift, uv]
theorem uv_congr {B C : Nat → Int} (i n : Nat) (h : ∀ k, k < n → B (i + k) = C (i + k)) : uv B i n = uv C i n := by rw [uv, un_congr n i h, uv]

/-- HORNER's STEP. -/
theorem uv_horner (B : Nat → Int) (i n : Nat) : uv B i (n + 1) = uv B (i + 1) n * 128 % 18446744073709551616 + B i % 128 := by
  unfold uv; rw [un]; generalize un B (i + 1) n = u; omega

theorem and127 (x : Int) (h0 : 0 ≤ x) (h1 : x < 256) : bits .and .u8 x 127 = x % 128 := by
  rw [u8_and x 127 h0 h1 (by omega) (by omega)]
  rw [show (127 : Int).toNat = 2 ^ 7 - 1 by decide, Nat.and_two_pow_sub_one_eq_mod]
  omega

theorem and127w (x : Int) (h0 : 0 ≤ x) (h1 : x < 18446744073709551616) : bits .and .u64 x 127 = x % 128 := by
  rw [u64_and x 127 h0 h1 (by omega) (by omega)]
  rw [show (127 : Int).toNat = 2 ^ 7 - 1 by decide, Nat.and_two_pow_sub_one_eq_mod]
  omega

/-- A number whose low j bits are nought, or one below 2^j: the sum. -/
theorem or_join (x y : Int) (j : Nat) (hx0 : 0 ≤ x) (hx : x < 18446744073709551616) (hy0 : 0 ≤ y) (hy : y < 18446744073709551616) (hm : x % 2 ^ j = 0) (hl : y < 2 ^ j) : bits .or .u64 x y = x + y := by
  rw [u64_or x y hx0 hx hy0 hy]
  obtain ⟨X, rfl⟩ := Int.eq_ofNat_of_zero_le hx0
  obtain ⟨Y, rfl⟩ := Int.eq_ofNat_of_zero_le hy0
  rw [Int.toNat_natCast, Int.toNat_natCast, nat_join j X Y (by exact_mod_cast hm) (by exact_mod_cast hl)]
  simp

theorem or_comm64 (x y : Int) (hx0 : 0 ≤ x) (hx : x < 18446744073709551616) (hy0 : 0 ≤ y) (hy : y < 18446744073709551616) : bits .or .u64 x y = bits .or .u64 y x := by
  rw [u64_or x y hx0 hx hy0 hy, u64_or y x hy0 hy hx0 hx, Nat.or_comm]

/-- THE READER's STEP, as the Go text does it: 'x |= uint64(c&0x7f) << s', s = 7 n. -/
theorem uv_step (B : Nat → Int) (i n : Nat) :
    bits .or .u64 (uv B i n) (IntKind.u64.wrap (B (i + n) % 128 * 2 ^ min (7 * n) 64)) = uv B i (n + 1) := by
  have hx0 := uv_lo B i n
  have hx1 := uv_hi B i n
  have hu0 := un_lo B n i
  have hu1 := un_hi B n i
  have hs := un_snoc B n i
  rw [IntKind.wrap_u64]
  generalize hg : B (i + n) % 128 = g at *
  have hg0 : 0 ≤ g := by omega
  have hg1 : g < 128 := by omega
  by_cases hn : n < 10
  · have hn' : n = 0 ∨ n = 1 ∨ n = 2 ∨ n = 3 ∨ n = 4 ∨ n = 5 ∨ n = 6 ∨ n = 7 ∨ n = 8 ∨ n = 9 := by omega
    rcases hn' with rfl | rfl | rfl | rfl | rfl | rfl | rfl | rfl | rfl | rfl
    all_goals
      simp only [Nat.reduceMul, Nat.reduceAdd, Int.reducePow, Nat.min_eq_left (show (0 : Nat) ≤ 64 by decide), Nat.min_eq_left (show (7 : Nat) ≤ 64 by decide), Nat.min_eq_left (show (14 : Nat) ≤ 64 by decide), Nat.min_eq_left (show (21 : Nat) ≤ 64 by decide), Nat.min_eq_left (show (28 : Nat) ≤ 64 by decide), Nat.min_eq_left (show (35 : Nat) ≤ 64 by decide), Nat.min_eq_left (show (42 : Nat) ≤ 64 by decide), Nat.min_eq_left (show (49 : Nat) ≤ 64 by decide), Nat.min_eq_left (show (56 : Nat) ≤ 64 by decide), Nat.min_eq_left (show (63 : Nat) ≤ 64 by decide)] at *
    · rw [or_comm64 _ _ hx0 hx1 (by omega) (by omega), or_join _ _ 0 (by omega) (by omega) hx0 hx1 (by simp only [Int.reducePow]; omega) (by unfold uv; simp only [Int.reducePow]; omega)]; unfold uv; omega
    · rw [or_comm64 _ _ hx0 hx1 (by omega) (by omega), or_join _ _ 7 (by omega) (by omega) hx0 hx1 (by simp only [Int.reducePow]; omega) (by unfold uv; simp only [Int.reducePow]; omega)]; unfold uv; omega
    · rw [or_comm64 _ _ hx0 hx1 (by omega) (by omega), or_join _ _ 14 (by omega) (by omega) hx0 hx1 (by simp only [Int.reducePow]; omega) (by unfold uv; simp only [Int.reducePow]; omega)]; unfold uv; omega
    · rw [or_comm64 _ _ hx0 hx1 (by omega) (by omega), or_join _ _ 21 (by omega) (by omega) hx0 hx1 (by simp only [Int.reducePow]; omega) (by unfold uv; simp only [Int.reducePow]; omega)]; unfold uv; omega
    · rw [or_comm64 _ _ hx0 hx1 (by omega) (by omega), or_join _ _ 28 (by omega) (by omega) hx0 hx1 (by simp only [Int.reducePow]; omega) (by unfold uv; simp only [Int.reducePow]; omega)]; unfold uv; omega
    · rw [or_comm64 _ _ hx0 hx1 (by omega) (by omega), or_join _ _ 35 (by omega) (by omega) hx0 hx1 (by simp only [Int.reducePow]; omega) (by unfold uv; simp only [Int.reducePow]; omega)]; unfold uv; omega
    · rw [or_comm64 _ _ hx0 hx1 (by omega) (by omega), or_join _ _ 42 (by omega) (by omega) hx0 hx1 (by simp only [Int.reducePow]; omega) (by unfold uv; simp only [Int.reducePow]; omega)]; unfold uv; omega
    · rw [or_comm64 _ _ hx0 hx1 (by omega) (by omega), or_join _ _ 49 (by omega) (by omega) hx0 hx1 (by simp only [Int.reducePow]; omega) (by unfold uv; simp only [Int.reducePow]; omega)]; unfold uv; omega
    · rw [or_comm64 _ _ hx0 hx1 (by omega) (by omega), or_join _ _ 56 (by omega) (by omega) hx0 hx1 (by simp only [Int.reducePow]; omega) (by unfold uv; simp only [Int.reducePow]; omega)]; unfold uv; omega
    · rw [or_comm64 _ _ hx0 hx1 (by omega) (by omega), or_join _ _ 63 (by omega) (by omega) hx0 hx1 (by simp only [Int.reducePow]; omega) (by unfold uv; simp only [Int.reducePow]; omega)]; unfold uv; omega
  · rw [Nat.min_eq_right (by omega)]
    have e0 : g * 2 ^ 64 % 18446744073709551616 = 0 := by simp only [Int.reducePow]; omega
    rw [e0, u64_or _ 0 hx0 hx1 (by omega) (by omega)]
    have e1 : ((128 : Int) ^ n) = 18446744073709551616 * (64 * 128 ^ (n - 10)) := by
      rw [show n = 10 + (n - 10) by omega, Int.pow_add, show 10 + (n - 10) - 10 = n - 10 by omega, ← Int.mul_assoc]; rfl
    simp only [Int.toNat_zero, Nat.or_zero]
    rw [Int.toNat_of_nonneg hx0]
    unfold uv
    rw [hs, e1, ← Int.mul_assoc, Int.mul_comm g, Int.mul_assoc, Int.add_mul_emod_self_left]

end Go.Proofs.Qxb6602753a.Uv
