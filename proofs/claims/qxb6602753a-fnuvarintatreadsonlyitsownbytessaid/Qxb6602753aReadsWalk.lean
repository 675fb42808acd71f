import Derived.Test.Qxb6602753aShared
import Derived.Below
namespace Go.Proofs.Qxb6602753a.fnUvarintAtReadsOnlyItsOwnBytes
open Go.RowKit
open Uv
set_option linter.unusedVariables false

/-- The front tests say yes at once. -/
theorem walk_early (a0 : Option Addr) (len0 cap0 : Nat) (a1 : Int) (w : World) (hm : len0 ≤ 9223372036854775807) (h : 1048576 < len0 ∨ a1 < 0 ∨ (len0 : Int) ≤ a1) :
    Calls Try.prog 5 #[.slice a0 len0 cap0, .int .i64 a1] w fun e w' => e = .returned (.bool true) ∧ Below w.heap.size w w' := by
  by_cases h1 : 1048576 < len0
  · go_enter Try.func5, Try.ntmps5
    go_wp2
    go_ret
    exact ⟨rfl, Below.refl _ _⟩
  · by_cases h2 : a1 < 0
    · go_enter Try.func5, Try.ntmps5
      go_wp2
      go_ret
      exact ⟨rfl, Below.refl _ _⟩
    · have h3 : (len0 : Int) ≤ a1 := by omega
      go_enter Try.func5, Try.ntmps5
      go_wp2
      go_ret
      exact ⟨rfl, Below.refl _ _⟩

/-- The shim at the very bytes of a varint. -/
theorem uv12s (g i n L C : Nat) (B : Nat → Int) (w : World) (hL : L = n + 1) (hlen : i + L ≤ 2000000)
    (hc : ∀ k, k < n + 1 → w.cell? ⟨g, i + k, none⟩ = some (.int .u8 (B (i + k)))) (hb : ∀ k, k < n + 1 → 0 ≤ B (i + k) ∧ B (i + k) < 256)
    (hmid : ∀ k, k < n → 128 ≤ B (i + k)) (hend : B (i + n) < 128) :
    Calls Try.prog 12 #[.slice (some ⟨g, i, none⟩) L C, .int .i64 0] w fun e w' =>
      e = .returned (.tuple #[.int .u64 (uv B i (n + 1)), .int .i64 ((n + 1 : Nat) : Int)]) ∧ w' = w := by
  subst hL
  have := uv12 g i (n + 1) C 0 n 0 (fun k => B (i + k)) w rfl (by omega) hc hb (by omega) (fun k hk => by rw [Nat.zero_add]; exact hmid k hk) (by rw [Nat.zero_add]; exact hend)
  rw [uv_shift, Nat.add_zero, Nat.zero_add] at this
  exact this

set_option maxHeartbeats 400000 in
theorem walk_in (b off len0 cap0 i : Nat) (B : Nat → Int) (w : World) (hlen : len0 ≤ 1048576) (hi : i < len0)
    (hc : ∀ k, k < len0 → w.cell? ⟨b, off + k, none⟩ = some (.int .u8 (B k))) (hb : ∀ k, k < len0 → 0 ≤ B k ∧ B k < 256) :
    Calls Try.prog 5 #[.slice (some ⟨b, off, none⟩) len0 cap0, .int .i64 (i : Int)] w fun e w' => e = .returned (.bool true) ∧ Below w.heap.size w w' := by
  have hmk := make22 len0 (by omega) w
  have hnn : ∀ (w : World) (a : Option Addr) (n c n' c' : Nat), (binOp .neq 22 (.slice a n c) (.slice none n' c')).run Try.prog w = .ok (.bool (!a.isNone)) w := fun w a n c n' c' => run_neq_slice_nil_any w _ _ a n c n' c' Try.underlying22
  obtain ⟨W, hcp, hbel, hsz, hcW⟩ := copy22 b off len0 cap0 B w hc
  have HC : Hid (∀ k, k < len0 → W.cell? ⟨w.heap.size, k, none⟩ = some (.int .u8 (B k))) := hcW
  have HB : Hid (∀ k, k < len0 → 0 ≤ B k ∧ B k < 256) := hb
  have HBel : Hid (Below w.heap.size w W) := hbel
  clear hc hb hcW hbel
  rcases first_end B i len0 with hall | ⟨n, hn1, hn2, hn3⟩
  · have HA : Hid (∀ k, i ≤ k → k < len0 → 128 ≤ B k) := hall
    clear hall
    go_enter Try.func5, Try.ntmps5
    go_wp2
    go_loop [6] (fun vj => ∃ j : Nat, i ≤ j ∧ j ≤ len0 ∧ vj = .int .i64 (j : Int)) (fun vj => len0 - (intOf vj).toNat)
    case atStart => exact ⟨i, Nat.le_refl _, by omega, rfl⟩
    case round =>
      obtain ⟨j, hj1, hj2, rfl⟩ := hrel
      by_cases hlt : j < len0
      · have hcj := HC.out j hlt
        have hge := HA.out j hj1 hlt
        go_wp2
        go_round
        case rel => exact ⟨j + 1, by omega, by omega, by go_num⟩
        case measure => simp [intOf]; omega
      · have hje : ((j : Int) == (len0 : Int)) = true := by simp; omega
        go_wp2
        go_ret
        exact ⟨rfl, HBel.out⟩
  · have HA : Hid (∀ k, k < n → 128 ≤ B (i + k)) := hn2
    have HE : Hid (B (i + n) < 128) := hn3
    clear hn2 hn3
    go_enter Try.func5, Try.ntmps5
    go_wp2
    go_loop [6] (fun vj => ∃ t : Nat, t ≤ n ∧ vj = .int .i64 ((i + t : Nat) : Int)) (fun vj => i + n - (intOf vj).toNat)
    case atStart => exact ⟨0, by omega, rfl⟩
    case round =>
      obtain ⟨t, ht, rfl⟩ := hrel
      by_cases hlt : t < n
      · have hcj := HC.out (i + t) (by omega)
        have hge := HA.out t hlt
        go_wp2
        go_round
        case rel => exact ⟨t + 1, by omega, by go_num⟩
        case measure => simp [intOf]; omega
      · obtain rfl : t = n := by omega
        have hcj := HC.out (i + t) (by omega)
        have hge := HE.out
        have hbj := HB.out (i + t) (by omega)
        go_wp2_with fail
        refine (uv12 w.heap.size 0 len0 len0 i t _ B _ rfl (by omega) (by simpa using HC.out) HB.out hn1 HA.out HE.out).mono ?_
        rintro e w' ⟨rfl, rfl⟩
        go_wp2_with fail
        refine (uv12s w.heap.size i t _ _ B _ (by omega) (by omega) (fun k hk => HC.out _ (by omega)) (fun k hk => HB.out _ (by omega)) HA.out HE.out).mono ?_
        rintro e w' ⟨rfl, rfl⟩
        have hfin : ((t : Int) + 1 == (i : Int) + (t : Int) + 1 - (i : Int)) = true := by simp; omega
        go_wp2
        go_ret
        exact ⟨rfl, HBel.out⟩
end Go.Proofs.Qxb6602753a.fnUvarintAtReadsOnlyItsOwnBytes
