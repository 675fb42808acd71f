/-
  THE CONTRACT OF engine.uvarintAt (31) AND OF ITS SHIM (12).
-/
import Derived.Test.Qxb6602753aProg
import Derived.Test.Qxb6602753aPlain
import Derived.WalkKit
import Derived.WalkSpells
namespace Go.Proofs.Qxb6602753a
open Go.RowKit
open Uv

theorem ret_two {k l : IntKind} {a b c d : Int} (h : a = c) (g : b = d) : Ending.returned (.tuple #[.int k a, .int l b]) = .returned (.tuple #[.int k c, .int l d]) := by rw [h, g]

set_option maxHeartbeats 400000 in
/-- uvarintAt at a place from which, behind n bytes of 128 and above, one below 128 follows. -/
theorem uv31 (b off len cap i n : Nat) (I : Int) (B : Nat → Int) (w : World) (hI : I = (i : Int)) (hlen : len ≤ 2000000)
    (hc : ∀ k, k < len → w.cell? ⟨b, off + k, none⟩ = some (.int .u8 (B k))) (hb : ∀ k, k < len → 0 ≤ B k ∧ B k < 256)
    (hin : i + n < len) (hmid : ∀ k, k < n → 128 ≤ B (i + k)) (hend : B (i + n) < 128) :
    Calls Try.prog 31 #[.slice (some ⟨b, off, none⟩) len cap, .int .i64 I] w fun e w' =>
      e = .returned (.tuple #[.int .u64 (uv B i (n + 1)), .int .i64 ((i + n + 1 : Nat) : Int)]) ∧ w' = w := by
  subst hI
  have hci := hc i (by omega)
  have hbi := hb i (by omega)
  by_cases hn : n = 0
  · subst hn
    have hlt : B i < 128 := hend
    go_enter Try.func31, Try.ntmps31
    go_wp2
    go_ret2
    exact ⟨ret_two (by rw [uv_one]; omega) (by omega), rfl⟩
  · have hge : 128 ≤ B i := hmid 0 (by omega)
    have Hand : Hid (bits .and .u64 (B i) 127 = uv B i 1) := by rw [uv_one]; exact and127w _ (by omega) (by omega)
    go_enter Try.func31, Try.ntmps31
    go_wp2
    go_loop [1, 6, 7] (fun vi vx vs => ∃ t : Nat, t < n ∧ vi = .int .i64 ((i + t : Nat) : Int) ∧ vx = .int .u64 (uv B i (t + 1)) ∧ vs = .int .i64 ((7 * (t + 1) : Nat) : Int)) (fun vi _ _ => i + n - (intOf vi).toNat)
    case atStart => exact ⟨0, by omega, rfl, by rw [← Hand.out], rfl⟩
    case round =>
      obtain ⟨t, ht, rfl, rfl, rfl⟩ := hrel
      have hct := hc (i + t + 1) (by omega)
      have hbt := hb (i + t + 1) (by omega)
      have hstep := uv_step B i (t + 1)
      have hand := and127 (B (i + t + 1)) hbt.1 hbt.2
      obtain ⟨hb0, hb1⟩ := hbt
      have hsh : Op.shift .shl .u64 (B (i + t + 1) % 128) .i64 (7 * ((t : Int) + 1)) = pure (.int .u64 (IntKind.u64.wrap (B (i + t + 1) % 128 * 2 ^ min (7 * (t + 1)) 64))) := by
        rw [shift_shl_any _ _ _ _ (by omega), show (7 * ((t : Int) + 1)).toNat = 7 * (t + 1) by omega]; rfl
      rw [show i + (t + 1) = i + t + 1 by omega] at hstep
      clear hci hbi hge hc hb
      by_cases hl : t + 1 = n
      · have hz : B (i + t + 1) < 128 := by rw [← hl] at hend; rwa [show i + (t + 1) = i + t + 1 by omega] at hend
        have Hn : Hid (t + 1 = n) := hl
        clear hl hend
        go_wp2
        go_ret2
        exact ⟨ret_two (by rw [Hn.out]) (by have := Hn.out; omega), rfl⟩
      · have hz : 128 ≤ B (i + t + 1) := hmid (t + 1) (by omega)
        clear hend
        go_wp2
        go_round
        case rel => exact ⟨t + 1, by omega, by go_num, rfl, by go_num⟩
        case measure => simp [intOf]; omega
end Go.Proofs.Qxb6602753a
