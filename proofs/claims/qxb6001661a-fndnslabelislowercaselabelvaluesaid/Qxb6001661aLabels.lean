/-
  THE CONTRACTS OF isDNSLabel (10), isLabelValue (11), plainName (12) AND THEIR SHIMS; THE PLAIN LAW.
-/
import Derived.Test.Qxb6001661aProg
import Derived.WalkKit
import Derived.WalkSpells
import Derived.Below
namespace Go.Proofs.Qxb6001661a
open Go.RowKit

/-- Byte i of s, as a number. -/
def cB (s : ByteArray) (i : Nat) : Int := if h : i < s.size then ((s[i]'h).toNat : Int) else 0
theorem cB_at {s : ByteArray} {i : Nat} (h : i < s.size) : cB s i = ((s[i]'h).toNat : Int) := by unfold cB; rw [dif_pos h]

def low (c : Int) : Prop := (97 ≤ c ∧ c ≤ 122) ∨ (48 ≤ c ∧ c ≤ 57)
def ok1 (n i : Nat) (c : Int) : Prop := low c ∨ (c = 45 ∧ 0 < i ∧ i + 1 < n)
def ok2 (n i : Nat) (c : Int) : Prop := low c ∨ (65 ≤ c ∧ c ≤ 90) ∨ ((c = 45 ∨ c = 95 ∨ c = 46) ∧ 0 < i ∧ i + 1 < n)
def ok3 (c : Int) : Prop := low c ∨ (65 ≤ c ∧ c ≤ 90) ∨ c = 45 ∨ c = 95
def Dns (s : ByteArray) : Prop := 0 < s.size ∧ s.size ≤ 63 ∧ ∀ i, i < s.size → ok1 s.size i (cB s i)
def Lab (s : ByteArray) : Prop := s.size ≤ 63 ∧ ∀ i, i < s.size → ok2 s.size i (cB s i)

/-- The first place where a property falls. -/
theorem first_fall {p : Nat → Prop} : ∀ n, ¬ (∀ i, i < n → p i) → ∃ i, i < n ∧ ¬ p i ∧ ∀ j, j < i → p j := by
  intro n
  induction n with
  | zero => intro h; exact absurd (fun i hi => by omega) h
  | succ n ih =>
    intro h
    by_cases hn : ∀ i, i < n → p i
    · refine ⟨n, by omega, fun hp => h fun i hi => ?_, hn⟩
      by_cases e : i = n
      · subst e; exact hp
      · exact hn i (by omega)
    · obtain ⟨i, h1, h2, h3⟩ := ih hn
      exact ⟨i, by omega, h2, h3⟩

set_option maxHeartbeats 800000 in
theorem d10_yes (s : ByteArray) (w : World) (h : Dns s) : Calls Try.prog 10 #[.string s] w fun e w' => e = .returned (.bool true) ∧ w' = w := by
  obtain ⟨h0, h63, hok⟩ := h
  have HO : Hid (∀ i, i < s.size → ok1 s.size i (cB s i)) := hok
  have hb0 : ((s.size : Int) == 0) = false := beq_eq_false_iff_ne.2 (by omega)
  clear hok
  go_enter Try.func10, Try.ntmps10
  go_wp2
  go_loop [3] (fun vi => ∃ k : Nat, k ≤ s.size ∧ vi = .int .i64 (k : Int)) (fun vi => s.size - (intOf vi).toNat)
  case atStart => exact ⟨0, Nat.zero_le _, rfl⟩
  case round =>
    obtain ⟨k, hk, rfl⟩ := hrel
    by_cases hlt : k < s.size
    · have hc := HO.out k hlt
      rw [cB_at hlt] at hc
      rcases hc with (⟨c1, c2⟩ | ⟨c1, c2⟩) | ⟨c1, c2, c3⟩
      · go_wp2
        go_round
        case rel => exact ⟨k + 1, by omega, by go_num⟩
        case measure => simp [intOf]; omega
      · go_wp2
        go_round
        case rel => exact ⟨k + 1, by omega, by go_num⟩
        case measure => simp [intOf]; omega
      · have c4 : ((s[k]'hlt).toNat : Int) ≤ 45 := by omega
        have c5 : 45 ≤ ((s[k]'hlt).toNat : Int) := by omega
        clear c1
        go_wp2
        go_round
        case rel => exact ⟨k + 1, by omega, by go_num⟩
        case measure => simp [intOf]; omega
    · go_wp2
      go_ret
      exact ⟨rfl, rfl⟩

set_option maxHeartbeats 1600000 in
theorem d10_no (s : ByteArray) (w : World) (hs : s.size ≤ 1048576) (h : ¬ Dns s) : Calls Try.prog 10 #[.string s] w fun e w' => e = .returned (.bool false) ∧ w' = w := by
  by_cases h0 : s.size = 0
  · have hb0 : ((s.size : Int) == 0) = true := beq_iff_eq.2 (by omega)
    clear h0
    go_enter Try.func10, Try.ntmps10
    go_wp2
    go_ret
    exact ⟨rfl, rfl⟩
  have hb0 : ((s.size : Int) == 0) = false := beq_eq_false_iff_ne.2 (by omega)
  by_cases h63 : 63 < s.size
  · clear h0
    go_enter Try.func10, Try.ntmps10
    go_wp2
    go_ret
    exact ⟨rfl, rfl⟩
  have hf : ¬ ∀ i, i < s.size → ok1 s.size i (cB s i) := fun hh => h ⟨by omega, by omega, hh⟩
  obtain ⟨f, hf1, hf2, hf3⟩ := first_fall _ hf
  have HF : Hid (¬ ok1 s.size f (cB s f)) := hf2
  have HO : Hid (∀ i, i < f → ok1 s.size i (cB s i)) := hf3
  clear hf hf2 hf3 h h0
  go_enter Try.func10, Try.ntmps10
  go_wp2
  go_loop [3] (fun vi => ∃ k : Nat, k ≤ f ∧ vi = .int .i64 (k : Int)) (fun vi => f - (intOf vi).toNat)
  case atStart => exact ⟨0, Nat.zero_le _, rfl⟩
  case round =>
    obtain ⟨k, hk, rfl⟩ := hrel
    have hlt : k < s.size := by omega
    by_cases hkf : k < f
    · have hc := HO.out k hkf
      rw [cB_at hlt] at hc
      rcases hc with (⟨c1, c2⟩ | ⟨c1, c2⟩) | ⟨c1, c2, c3⟩
      · go_wp2
        go_round
        case rel => exact ⟨k + 1, by omega, by go_num⟩
        case measure => simp [intOf]; omega
      · go_wp2
        go_round
        case rel => exact ⟨k + 1, by omega, by go_num⟩
        case measure => simp [intOf]; omega
      · have c4 : ((s[k]'hlt).toNat : Int) ≤ 45 := by omega
        have c5 : 45 ≤ ((s[k]'hlt).toNat : Int) := by omega
        clear c1
        go_wp2
        go_round
        case rel => exact ⟨k + 1, by omega, by go_num⟩
        case measure => simp [intOf]; omega
    · obtain rfl : k = f := by omega
      have hc := HF.out
      rw [cB_at hlt] at hc
      unfold ok1 low at hc
      have hw : (((s[k]'hlt).toNat : Int) ≤ 44) ∨ (45 ≤ ((s[k]'hlt).toNat : Int) ∧ ((s[k]'hlt).toNat : Int) ≤ 45 ∧ (k : Int) ≤ 0) ∨ (45 ≤ ((s[k]'hlt).toNat : Int) ∧ ((s[k]'hlt).toNat : Int) ≤ 45 ∧ 0 < (k : Int) ∧ (s.size : Int) ≤ (k : Int) + 1) ∨
          (46 ≤ ((s[k]'hlt).toNat : Int) ∧ ((s[k]'hlt).toNat : Int) ≤ 47) ∨ (58 ≤ ((s[k]'hlt).toNat : Int) ∧ ((s[k]'hlt).toNat : Int) ≤ 96) ∨ 123 ≤ ((s[k]'hlt).toNat : Int) := by omega
      clear hc
      rcases hw with c1 | ⟨c1, c2, c3⟩ | ⟨c1, c2, c3, c4⟩ | ⟨c1, c2⟩ | ⟨c1, c2⟩ | c1
      all_goals
        go_wp2
        go_ret
        exact ⟨rfl, rfl⟩
end Go.Proofs.Qxb6001661a
