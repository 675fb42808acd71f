/-
  THE CONTRACTS OF isLabelValue (11), plainName (12) AND THE SHIMS (7, 8, 9).
-/
import Derived.Test.Qxb6001661aLabels
namespace Go.Proofs.Qxb6001661a
open Go.RowKit

set_option maxHeartbeats 1600000 in
theorem l11_yes (s : ByteArray) (w : World) (h : Lab s) : Calls Try.prog 11 #[.string s] w fun e w' => e = .returned (.bool true) ∧ w' = w := by
  obtain ⟨h63, hok⟩ := h
  have HO : Hid (∀ i, i < s.size → ok2 s.size i (cB s i)) := hok
  clear hok
  go_enter Try.func11, Try.ntmps11
  go_wp2
  go_loop [3] (fun vi => ∃ k : Nat, k ≤ s.size ∧ vi = .int .i64 (k : Int)) (fun vi => s.size - (intOf vi).toNat)
  case atStart => exact ⟨0, Nat.zero_le _, rfl⟩
  case round =>
    obtain ⟨k, hk, rfl⟩ := hrel
    by_cases hlt : k < s.size
    · have hc := HO.out k hlt
      rw [cB_at hlt] at hc
      have hw : (97 ≤ ((s[k]'hlt).toNat : Int) ∧ ((s[k]'hlt).toNat : Int) ≤ 122) ∨ (48 ≤ ((s[k]'hlt).toNat : Int) ∧ ((s[k]'hlt).toNat : Int) ≤ 57) ∨ (65 ≤ ((s[k]'hlt).toNat : Int) ∧ ((s[k]'hlt).toNat : Int) ≤ 90) ∨
          (45 ≤ ((s[k]'hlt).toNat : Int) ∧ ((s[k]'hlt).toNat : Int) ≤ 45 ∧ 0 < (k : Int) ∧ (k : Int) + 1 < s.size) ∨ (95 ≤ ((s[k]'hlt).toNat : Int) ∧ ((s[k]'hlt).toNat : Int) ≤ 95 ∧ 0 < (k : Int) ∧ (k : Int) + 1 < s.size) ∨ (46 ≤ ((s[k]'hlt).toNat : Int) ∧ ((s[k]'hlt).toNat : Int) ≤ 46 ∧ 0 < (k : Int) ∧ (k : Int) + 1 < s.size) := by
        unfold ok2 low at hc; omega
      clear hc
      rcases hw with ⟨c1, c2⟩ | ⟨c1, c2⟩ | ⟨c1, c2⟩ | ⟨c1, c2, c3, c4⟩ | ⟨c1, c2, c3, c4⟩ | ⟨c1, c2, c3, c4⟩
      all_goals
        go_wp2
        go_round
        case rel => exact ⟨k + 1, by omega, by go_num⟩
        case measure => simp [intOf]; omega
    · go_wp2
      go_ret
      exact ⟨rfl, rfl⟩

set_option maxHeartbeats 1600000 in
theorem l11_no (s : ByteArray) (w : World) (hs : s.size ≤ 1048576) (h : ¬ Lab s) : Calls Try.prog 11 #[.string s] w fun e w' => e = .returned (.bool false) ∧ w' = w := by
  by_cases h63 : 63 < s.size
  · clear h
    go_enter Try.func11, Try.ntmps11
    go_wp2
    go_ret
    exact ⟨rfl, rfl⟩
  have hf : ¬ ∀ i, i < s.size → ok2 s.size i (cB s i) := fun hh => h ⟨by omega, hh⟩
  obtain ⟨f, hf1, hf2, hf3⟩ := first_fall _ hf
  have HF : Hid (¬ ok2 s.size f (cB s f)) := hf2
  have HO : Hid (∀ i, i < f → ok2 s.size i (cB s i)) := hf3
  clear hf hf2 hf3 h
  go_enter Try.func11, Try.ntmps11
  go_wp2
  go_loop [3] (fun vi => ∃ k : Nat, k ≤ f ∧ vi = .int .i64 (k : Int)) (fun vi => f - (intOf vi).toNat)
  case atStart => exact ⟨0, Nat.zero_le _, rfl⟩
  case round =>
    obtain ⟨k, hk, rfl⟩ := hrel
    have hlt : k < s.size := by omega
    by_cases hkf : k < f
    · have hc := HO.out k hkf
      rw [cB_at hlt] at hc
      have hw : (97 ≤ ((s[k]'hlt).toNat : Int) ∧ ((s[k]'hlt).toNat : Int) ≤ 122) ∨ (48 ≤ ((s[k]'hlt).toNat : Int) ∧ ((s[k]'hlt).toNat : Int) ≤ 57) ∨ (65 ≤ ((s[k]'hlt).toNat : Int) ∧ ((s[k]'hlt).toNat : Int) ≤ 90) ∨
          (45 ≤ ((s[k]'hlt).toNat : Int) ∧ ((s[k]'hlt).toNat : Int) ≤ 45 ∧ 0 < (k : Int) ∧ (k : Int) + 1 < s.size) ∨ (95 ≤ ((s[k]'hlt).toNat : Int) ∧ ((s[k]'hlt).toNat : Int) ≤ 95 ∧ 0 < (k : Int) ∧ (k : Int) + 1 < s.size) ∨ (46 ≤ ((s[k]'hlt).toNat : Int) ∧ ((s[k]'hlt).toNat : Int) ≤ 46 ∧ 0 < (k : Int) ∧ (k : Int) + 1 < s.size) := by
        unfold ok2 low at hc; omega
      clear hc
      rcases hw with ⟨c1, c2⟩ | ⟨c1, c2⟩ | ⟨c1, c2⟩ | ⟨c1, c2, c3, c4⟩ | ⟨c1, c2, c3, c4⟩ | ⟨c1, c2, c3, c4⟩
      all_goals
        go_wp2
        go_round
        case rel => exact ⟨k + 1, by omega, by go_num⟩
        case measure => simp [intOf]; omega
    · obtain rfl : k = f := by omega
      have hc := HF.out
      rw [cB_at hlt] at hc
      unfold ok2 low at hc
      have hw : ((s[k]'hlt).toNat : Int) ≤ 44 ∨ (45 ≤ ((s[k]'hlt).toNat : Int) ∧ ((s[k]'hlt).toNat : Int) ≤ 45 ∧ (k : Int) ≤ 0) ∨ (45 ≤ ((s[k]'hlt).toNat : Int) ∧ ((s[k]'hlt).toNat : Int) ≤ 45 ∧ 0 < (k : Int) ∧ (s.size : Int) ≤ (k : Int) + 1) ∨
          (46 ≤ ((s[k]'hlt).toNat : Int) ∧ ((s[k]'hlt).toNat : Int) ≤ 46 ∧ (k : Int) ≤ 0) ∨ (46 ≤ ((s[k]'hlt).toNat : Int) ∧ ((s[k]'hlt).toNat : Int) ≤ 46 ∧ 0 < (k : Int) ∧ (s.size : Int) ≤ (k : Int) + 1) ∨
          (47 ≤ ((s[k]'hlt).toNat : Int) ∧ ((s[k]'hlt).toNat : Int) ≤ 47) ∨ (58 ≤ ((s[k]'hlt).toNat : Int) ∧ ((s[k]'hlt).toNat : Int) ≤ 64) ∨ (91 ≤ ((s[k]'hlt).toNat : Int) ∧ ((s[k]'hlt).toNat : Int) ≤ 94) ∨
          (95 ≤ ((s[k]'hlt).toNat : Int) ∧ ((s[k]'hlt).toNat : Int) ≤ 95 ∧ (k : Int) ≤ 0) ∨ (95 ≤ ((s[k]'hlt).toNat : Int) ∧ ((s[k]'hlt).toNat : Int) ≤ 95 ∧ 0 < (k : Int) ∧ (s.size : Int) ≤ (k : Int) + 1) ∨ (96 ≤ ((s[k]'hlt).toNat : Int) ∧ ((s[k]'hlt).toNat : Int) ≤ 96) ∨ 123 ≤ ((s[k]'hlt).toNat : Int) := by omega
      clear hc
      rcases hw with c1 | ⟨c1, c2, c3⟩ | ⟨c1, c2, c3, c4⟩ | ⟨c1, c2, c3⟩ | ⟨c1, c2, c3, c4⟩ | ⟨c1, c2⟩ | ⟨c1, c2⟩ | ⟨c1, c2⟩ | ⟨c1, c2, c3⟩ | ⟨c1, c2, c3, c4⟩ | ⟨c1, c2⟩ | c1
      all_goals
        go_wp2
        go_ret
        exact ⟨rfl, rfl⟩
end Go.Proofs.Qxb6001661a
