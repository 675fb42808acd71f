/-
  THE CONTRACT OF hornerUvarint (11): outside the slice; no ending byte; an ending byte.
-/
import Derived.Test.Qxb6602753aShared
namespace Go.Proofs.Qxb6602753a
open Go.RowKit Go.ChangeShapes Go.WideShapes Go.ChangeAt
open Uv

theorem ret_three {k l : IntKind} {a b c d : Int} {p : Bool} (h : a = c) (g : b = d) : Ending.returned (.tuple #[.int k a, .int l b, .bool p]) = .returned (.tuple #[.int k c, .int l d, .bool p]) := by rw [h, g]

theorem h11_out (a : Option Addr) (len cap : Nat) (I : Int) (w : World) (_hlen : len ≤ 2000000) (h : I < 0 ∨ (len : Int) ≤ I) :
    Calls Try.prog 11 #[.slice a len cap, .int .i64 I] w fun e w' => e = .returned (.tuple #[.int .u64 0, .int .i64 0, .bool false]) ∧ w' = w := by
  by_cases h1 : I < 0
  · go_enter Try.func11, Try.ntmps11
    go_wp2
    go_ret3
    exact ⟨rfl, rfl⟩
  · have h2 : (len : Int) ≤ I := by omega
    go_enter Try.func11, Try.ntmps11
    go_wp2
    go_ret3
    exact ⟨rfl, rfl⟩

set_option maxHeartbeats 400000 in
theorem h11_none (b off len cap i : Nat) (I : Int) (B : Nat → Int) (w : World) (hI : I = (i : Int)) (hlen : len ≤ 2000000) (hi : i < len)
    (hc : ∀ k, k < len → w.cell? ⟨b, off + k, none⟩ = some (.int .u8 (B k))) (hall : ∀ k, i ≤ k → k < len → 128 ≤ B k) :
    Calls Try.prog 11 #[.slice (some ⟨b, off, none⟩) len cap, .int .i64 I] w fun e w' => e = .returned (.tuple #[.int .u64 0, .int .i64 0, .bool false]) ∧ w' = w := by
  subst hI
  have HC : Hid (∀ k, k < len → w.cell? ⟨b, off + k, none⟩ = some (.int .u8 (B k))) := hc
  have HA : Hid (∀ k, i ≤ k → k < len → 128 ≤ B k) := hall
  clear hc hall
  go_enter Try.func11, Try.ntmps11
  go_wp2
  go_loop [7] (fun vj => ∃ j : Nat, i ≤ j ∧ j ≤ len ∧ vj = .int .i64 (j : Int)) (fun vj => len - (intOf vj).toNat)
  case atStart => exact ⟨i, Nat.le_refl _, by omega, rfl⟩
  case round =>
    obtain ⟨j, hj1, hj2, rfl⟩ := hrel
    by_cases hlt : j < len
    · have hcj := HC.out j hlt
      have hge := HA.out j hj1 hlt
      go_wp2
      go_round
      case rel => exact ⟨j + 1, by omega, by omega, by go_num⟩
      case measure => simp [intOf]; omega
    · have hje : ((j : Int) == (len : Int)) = true := by simp; omega
      go_wp2
      go_ret3
      exact ⟨rfl, rfl⟩

set_option maxHeartbeats 800000 in
theorem h11_ok (b off len cap i n : Nat) (I : Int) (B : Nat → Int) (w : World) (hI : I = (i : Int)) (hlen : len ≤ 2000000)
    (hc : ∀ k, k < len → w.cell? ⟨b, off + k, none⟩ = some (.int .u8 (B k))) (hb : ∀ k, k < len → 0 ≤ B k ∧ B k < 256)
    (hin : i + n < len) (hmid : ∀ k, k < n → 128 ≤ B (i + k)) (hend : B (i + n) < 128) :
    Calls Try.prog 11 #[.slice (some ⟨b, off, none⟩) len cap, .int .i64 I] w fun e w' =>
      e = .returned (.tuple #[.int .u64 (uv B i (n + 1)), .int .i64 ((i + n + 1 : Nat) : Int), .bool true]) ∧ w' = w := by
  subst hI
  have HC : Hid (∀ k, k < len → w.cell? ⟨b, off + k, none⟩ = some (.int .u8 (B k))) := hc
  have HB : Hid (∀ k, k < len → 0 ≤ B k ∧ B k < 256) := hb
  have HA : Hid (∀ k, k < n → 128 ≤ B (i + k)) := hmid
  have HE : Hid (B (i + n) < 128) := hend
  clear hc hb hmid hend
  go_enter Try.func11, Try.ntmps11
  go_wp2
  go_loop [7] (fun vj => ∃ t : Nat, t ≤ n ∧ vj = .int .i64 ((i + t : Nat) : Int)) (fun vj => i + n - (intOf vj).toNat)
  case atStart => exact ⟨0, by omega, rfl⟩
  case round =>
    obtain ⟨t, ht, rfl⟩ := hrel
    by_cases hlt : t < n
    · have hcj := HC.out (i + t) (by omega)
      have hge := HA.out t hlt
      go_wp2
      go_round
      case rel => exact ⟨t + 1, by omega, by go_num⟩
      case measure => simp [intOf]; omega
    · obtain rfl : t = n := by omega
      have hcj := HC.out (i + t) (by omega)
      have hge := HE.out
      go_wp2
      clear hcj hge
      go_loop [8, 9] (fun vx vk => ∃ d : Nat, d ≤ t + 1 ∧ vk = .int .i64 ((i : Int) + t - d) ∧ vx = .int .u64 (uv B (i + t + 1 - d) d)) (fun _ vk => ((intOf vk) - i + 1).toNat)
      case atStart => exact ⟨0, by omega, by simp, by simp [uv, un]⟩
      case round =>
        obtain ⟨d, hd, rfl, rfl⟩ := hrel
        by_cases hlt2 : d ≤ t
        · obtain ⟨m, hm⟩ : ∃ m : Nat, i + t - d = m := ⟨_, rfl⟩
          have e1 : (i : Int) + t - d = (m : Int) := by omega
          have e2 : i + t + 1 - d = m + 1 := by omega
          have hcj := HC.out m (by omega)
          obtain ⟨hb0, hb1⟩ := HB.out m (by omega)
          have hand := and127 (B m) hb0 hb1
          have HS : Hid (bits .or .u64 (IntKind.u64.wrap (uv B (m + 1) d * 128)) (B m % 128) = uv B m (d + 1)) := by
            have h0 := uv_lo B (m + 1) d
            rw [IntKind.wrap_u64, or_join _ _ 7 (by omega) (by omega) (by omega) (by omega) (by simp only [Int.reducePow]; omega) (by simp only [Int.reducePow]; omega)]
            exact (uv_horner B m d).symm
          rw [e1, e2]
          have Hm : Hid (i + t - d = m) := hm
          clear hm e1 e2
          have hmi : (i : Int) ≤ (m : Int) := by have := Hm.out; omega
          have hml : m < len := by have := Hm.out; omega
          go_wp2
          go_round
          case rel => exact ⟨d + 1, by omega, by have := Hm.out; go_num, by rw [show i + t + 1 - (d + 1) = m by have := Hm.out; omega, ← HS.out]⟩
          case measure => have := Hm.out; simp [intOf]; omega
        · obtain rfl : d = t + 1 := by omega
          have e1 : (i : Int) + t - (t + 1 : Nat) = (i : Int) - 1 := by omega
          rw [e1, show i + t + 1 - (t + 1) = i by omega]
          clear e1
          go_wp2
          go_ret3
          exact ⟨ret_three rfl (by omega), rfl⟩
end Go.Proofs.Qxb6602753a
