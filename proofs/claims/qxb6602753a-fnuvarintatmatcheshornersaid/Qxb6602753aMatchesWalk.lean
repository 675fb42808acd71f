/-
  THE WALK OF FnUvarintAtMatchesHorner (3).
-/
import Derived.Test.Qxb6602753aHorner
import Derived.Below
namespace Go.Proofs.Qxb6602753a.fnUvarintAtMatchesHorner
open Go.RowKit
open Uv

/-- The front tests say yes at once. -/
theorem walk_early (a0 : Option Addr) (len0 cap0 : Nat) (a1 : Int) (w : World) (_hm : len0 ≤ 9223372036854775807) (h : 1048576 < len0 ∨ a1 < 0 ∨ (len0 : Int) ≤ a1) :
    Calls Try.prog 3 #[.slice a0 len0 cap0, .int .i64 a1] w fun e w' => e = .returned (.bool true) ∧ Below w.heap.size w w' := by
  by_cases h1 : 1048576 < len0
  · go_enter Try.func3, Try.ntmps3
    go_wp2
    go_ret
    exact ⟨rfl, Below.refl _ _⟩
  · by_cases h2 : a1 < 0
    · go_enter Try.func3, Try.ntmps3
      go_wp2
      go_ret
      exact ⟨rfl, Below.refl _ _⟩
    · have h3 : (len0 : Int) ≤ a1 := by omega
      go_enter Try.func3, Try.ntmps3
      go_wp2
      go_ret
      exact ⟨rfl, Below.refl _ _⟩

set_option maxHeartbeats 400000 in
theorem walk_in (b off len0 cap0 i : Nat) (B : Nat → Int) (w : World) (hlen : len0 ≤ 1048576) (hi : i < len0)
    (hc : ∀ k, k < len0 → w.cell? ⟨b, off + k, none⟩ = some (.int .u8 (B k))) (hb : ∀ k, k < len0 → 0 ≤ B k ∧ B k < 256) :
    Calls Try.prog 3 #[.slice (some ⟨b, off, none⟩) len0 cap0, .int .i64 (i : Int)] w fun e w' => e = .returned (.bool true) ∧ Below w.heap.size w w' := by
  have hmk := make22 len0 (by omega) w
  have hnn : ∀ (w : World) (a : Option Addr) (n c n' c' : Nat), (binOp .neq 22 (.slice a n c) (.slice none n' c')).run Try.prog w = .ok (.bool (!a.isNone)) w := fun w a n c n' c' => run_neq_slice_nil_any w _ _ a n c n' c' Try.underlying22
  obtain ⟨W, hcp, hbel, hsz, hcW⟩ := copy22 b off len0 cap0 B w hc
  have HC : Hid (∀ k, k < len0 → W.cell? ⟨w.heap.size, k, none⟩ = some (.int .u8 (B k))) := hcW
  have HB : Hid (∀ k, k < len0 → 0 ≤ B k ∧ B k < 256) := hb
  have HBel : Hid (Below w.heap.size w W) := hbel
  clear hc hb hcW hbel
  have h10 : ∀ w1, Hid (Calls Try.prog 10 #[.slice (some ⟨b, off, none⟩) len0 cap0, .int .i64 (i : Int)] w1 fun e w' => e = .returned (.bool true) ∧ w' = w1) := by
    intro w1
    show Calls Try.prog 10 _ _ _
    clear hmk hcp
    go_enter Try.func10, Try.ntmps10
    go_wp2
    go_ret
    exact ⟨rfl, rfl⟩
  rcases first_end B i len0 with hall | ⟨n, hn1, hn2, hn3⟩
  · have HA : Hid (∀ k, i ≤ k → k < len0 → 128 ≤ B k) := hall
    clear hall
    go_enter Try.func3, Try.ntmps3
    go_wp2_with fail
    refine (h10 _).out.mono ?_
    rintro e w' ⟨rfl, rfl⟩
    go_wp2_with fail
    refine (h11_none w'.heap.size 0 len0 len0 i _ B _ rfl (by omega) hi (by simpa using HC.out) HA.out).mono ?_
    rintro e w1 ⟨rfl, rfl⟩
    go_wp2
    go_ret
    exact ⟨rfl, HBel.out⟩
  · have HA : Hid (∀ k, k < n → 128 ≤ B (i + k)) := hn2
    have HE : Hid (B (i + n) < 128) := hn3
    clear hn2 hn3
    go_enter Try.func3, Try.ntmps3
    go_wp2_with fail
    refine (h10 _).out.mono ?_
    rintro e w' ⟨rfl, rfl⟩
    go_wp2_with fail
    refine (h11_ok w'.heap.size 0 len0 len0 i n _ B _ rfl (by omega) (by simpa using HC.out) HB.out hn1 HA.out HE.out).mono ?_
    rintro e w1 ⟨rfl, rfl⟩
    go_wp2_with fail
    refine (uv12 w'.heap.size 0 len0 len0 i n _ B _ rfl (by omega) (by simpa using HC.out) HB.out hn1 HA.out HE.out).mono ?_
    rintro e w1 ⟨rfl, rfl⟩
    go_wp2
    go_ret
    exact ⟨rfl, HBel.out⟩
end Go.Proofs.Qxb6602753a.fnUvarintAtMatchesHorner
