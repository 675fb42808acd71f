/-
  THE CONTRACT OF uuidv7.Valid (6).
-/
import Derived.Test.Qxb6002784aProg
import Derived.WalkKit
import Derived.WalkSpells
import Derived.Below
namespace Go.Proofs.Qxb6002784a
open Go.RowKit

/-- Byte i of s, as a number. -/
def cB (s : ByteArray) (i : Nat) : Int := if h : i < s.size then ((s[i]'h).toNat : Int) else 0
theorem cB_at {s : ByteArray} {i : Nat} (h : i < s.size) : cB s i = ((s[i]'h).toNat : Int) := by unfold cB; rw [dif_pos h]

def dash (i : Nat) : Prop := i = 8 ∨ i = 13 ∨ i = 18 ∨ i = 23
structure okV (i : Nat) (c : Int) : Prop where
  d : dash i → c = 45
  v : i = 14 → c = 55
  r : i = 19 → c = 56 ∨ c = 57 ∨ c = 97 ∨ c = 98
  o : ¬ dash i → i ≠ 14 → i ≠ 19 → (48 ≤ c ∧ c ≤ 57) ∨ (97 ≤ c ∧ c ≤ 102)
def Vd (s : ByteArray) : Prop := s.size = 36 ∧ ∀ i, i < 36 → okV i (cB s i)

theorem first_fall {p : Nat → Prop} : ∀ n, ¬ (∀ i, i < n → p i) → ∃ i, i < n ∧ ¬ p i ∧ ∀ j, j < i → p j := by
  intro n
  induction n with
  | zero => intro h; exact absurd (fun i hi => by omega) h
  | succ n ih =>
    intro h
    by_cases hn : ∀ i, i < n → p i
    · refine ⟨n, by omega, fun hp => h fun i hi => ?_, hn⟩
      by_cases e : i = n
      · subst e; exact hp
      · exact hn i (by omega)
    · obtain ⟨i, h1, h2, h3⟩ := ih hn
      exact ⟨i, by omega, h2, h3⟩

theorem v6_len (s : ByteArray) (w : World) (h : s.size ≠ 36) (_hs : s.size ≤ 1000) : Calls Try.prog 6 #[.string s] w fun e w' => e = .returned (.bool false) ∧ w' = w := by
  have hb : ((s.size : Int) == 36) = false := beq_eq_false_iff_ne.2 (by omega)
  have hb2 : ((s.size : Int) != 36) = true := by rw [bne_iff_ne]; omega
  go_enter Try.func6, Try.ntmps6
  go_wp2
  go_ret
  exact ⟨rfl, rfl⟩

set_option maxHeartbeats 1600000 in
theorem v6_yes (s : ByteArray) (w : World) (h : Vd s) : Calls Try.prog 6 #[.string s] w fun e w' => e = .returned (.bool true) ∧ w' = w := by
  obtain ⟨h36, hok⟩ := h
  have hb2 : ((s.size : Int) != 36) = false := by rw [bne_eq_false_iff_eq]; omega
  have hb3 : (s.size : Int) ≤ 36 := by omega
  have hb4 : (36 : Int) ≤ s.size := by omega
  have HO : Hid (∀ i, i < 36 → okV i (cB s i)) := hok
  have HS : Hid (s.size = 36) := h36
  clear hok h36
  go_enter Try.func6, Try.ntmps6
  go_wp2
  go_loop [10] (fun vi => ∃ k : Nat, k ≤ s.size ∧ vi = .int .i64 (k : Int)) (fun vi => s.size - (intOf vi).toNat)
  case atStart => exact ⟨0, Nat.zero_le _, rfl⟩
  case round =>
    obtain ⟨k, hk, rfl⟩ := hrel
    by_cases hlt : k < s.size
    · have hc := HO.out k (by omega)
      rw [cB_at hlt] at hc
      by_cases k8 : k = 8
      · subst k8
        have c1 : (((s[8]'hlt).toNat : Int) != 45) = false := by rw [bne_eq_false_iff_eq]; exact hc.d (.inl rfl)
        clear hc
        go_wp2
        go_round
        case rel => exact ⟨9, by omega, by go_num⟩
        case measure => simp [intOf]; omega
      by_cases k13 : k = 13
      · subst k13
        have c1 : (((s[13]'hlt).toNat : Int) != 45) = false := by rw [bne_eq_false_iff_eq]; exact hc.d (.inr (.inl rfl))
        clear hc
        go_wp2
        go_round
        case rel => exact ⟨14, by omega, by go_num⟩
        case measure => simp [intOf]; omega
      by_cases k18 : k = 18
      · subst k18
        have c1 : (((s[18]'hlt).toNat : Int) != 45) = false := by rw [bne_eq_false_iff_eq]; exact hc.d (.inr (.inr (.inl rfl)))
        clear hc
        go_wp2
        go_round
        case rel => exact ⟨19, by omega, by go_num⟩
        case measure => simp [intOf]; omega
      by_cases k23 : k = 23
      · subst k23
        have c1 : (((s[23]'hlt).toNat : Int) != 45) = false := by rw [bne_eq_false_iff_eq]; exact hc.d (.inr (.inr (.inr rfl)))
        clear hc
        go_wp2
        go_round
        case rel => exact ⟨24, by omega, by go_num⟩
        case measure => simp [intOf]; omega
      by_cases k14 : k = 14
      · subst k14
        have c1 : (((s[14]'hlt).toNat : Int) != 55) = false := by rw [bne_eq_false_iff_eq]; exact hc.v rfl
        clear hc
        go_wp2
        go_round
        case rel => exact ⟨15, by omega, by go_num⟩
        case measure => simp [intOf]; omega
      by_cases k19 : k = 19
      · subst k19
        rcases hc.r rfl with h | h | h | h
        · clear hc
          have d56 : (((s[19]'hlt).toNat : Int) != 56) = false := by rw [bne_eq_false_iff_eq]; omega
          clear h
          go_wp2
          go_round
          case rel => exact ⟨20, by omega, by go_num⟩
          case measure => simp [intOf]; omega
        · clear hc
          have d56 : (((s[19]'hlt).toNat : Int) != 56) = true := by rw [bne_iff_ne]; omega
          have d57 : (((s[19]'hlt).toNat : Int) != 57) = false := by rw [bne_eq_false_iff_eq]; omega
          clear h
          go_wp2
          go_round
          case rel => exact ⟨20, by omega, by go_num⟩
          case measure => simp [intOf]; omega
        · clear hc
          have d56 : (((s[19]'hlt).toNat : Int) != 56) = true := by rw [bne_iff_ne]; omega
          have d57 : (((s[19]'hlt).toNat : Int) != 57) = true := by rw [bne_iff_ne]; omega
          have d97 : (((s[19]'hlt).toNat : Int) != 97) = false := by rw [bne_eq_false_iff_eq]; omega
          clear h
          go_wp2
          go_round
          case rel => exact ⟨20, by omega, by go_num⟩
          case measure => simp [intOf]; omega
        · clear hc
          have d56 : (((s[19]'hlt).toNat : Int) != 56) = true := by rw [bne_iff_ne]; omega
          have d57 : (((s[19]'hlt).toNat : Int) != 57) = true := by rw [bne_iff_ne]; omega
          have d97 : (((s[19]'hlt).toNat : Int) != 97) = true := by rw [bne_iff_ne]; omega
          have d98 : (((s[19]'hlt).toNat : Int) != 98) = false := by rw [bne_eq_false_iff_eq]; omega
          clear h
          go_wp2
          go_round
          case rel => exact ⟨20, by omega, by go_num⟩
          case measure => simp [intOf]; omega
      have e8 : ((k : Int) == 8) = false := beq_eq_false_iff_ne.2 (by omega)
      have e13 : ((k : Int) == 13) = false := beq_eq_false_iff_ne.2 (by omega)
      have e18 : ((k : Int) == 18) = false := beq_eq_false_iff_ne.2 (by omega)
      have e23 : ((k : Int) == 23) = false := beq_eq_false_iff_ne.2 (by omega)
      have e14 : ((k : Int) == 14) = false := beq_eq_false_iff_ne.2 (by omega)
      have e19 : ((k : Int) == 19) = false := beq_eq_false_iff_ne.2 (by omega)
      have ho := hc.o (by unfold dash; omega) k14 k19
      clear hc k8 k13 k18 k23 k14 k19
      rcases ho with ⟨c1, c2⟩ | ⟨c1, c2⟩
      · go_wp2
        go_round
        case rel => exact ⟨k + 1, by omega, by go_num⟩
        case measure => simp [intOf]; omega
      · go_wp2
        go_round
        case rel => exact ⟨k + 1, by omega, by go_num⟩
        case measure => simp [intOf]; omega
    · go_wp2
      go_ret
      exact ⟨rfl, rfl⟩

theorem notok {i : Nat} {c : Int} (h : ¬ okV i c) : (dash i ∧ c ≠ 45) ∨ (i = 14 ∧ c ≠ 55) ∨ (i = 19 ∧ c ≠ 56 ∧ c ≠ 57 ∧ c ≠ 97 ∧ c ≠ 98) ∨ (¬ dash i ∧ i ≠ 14 ∧ i ≠ 19 ∧ (c ≤ 47 ∨ (58 ≤ c ∧ c ≤ 96) ∨ 103 ≤ c)) := by
  by_cases hd : dash i
  · by_cases hc : c = 45
    · exfalso
      have hd' := hd
      unfold dash at hd'
      exact h ⟨fun _ => hc, fun e => by omega, fun e => by omega, fun e => absurd hd e⟩
    · exact .inl ⟨hd, hc⟩
  · have hd' := hd
    unfold dash at hd'
    by_cases h14 : i = 14
    · by_cases hc : c = 55
      · exact absurd ⟨fun e => absurd e hd, fun _ => hc, fun e => by omega, fun _ e => absurd h14 e⟩ h
      · exact .inr (.inl ⟨h14, hc⟩)
    · by_cases h19 : i = 19
      · by_cases hc : c = 56 ∨ c = 57 ∨ c = 97 ∨ c = 98
        · exact absurd ⟨fun e => absurd e hd, fun e => by omega, fun _ => hc, fun _ _ e => absurd h19 e⟩ h
        · exact .inr (.inr (.inl ⟨h19, by omega, by omega, by omega, by omega⟩))
      · by_cases hc : (48 ≤ c ∧ c ≤ 57) ∨ (97 ≤ c ∧ c ≤ 102)
        · exact absurd ⟨fun e => absurd e hd, fun e => by omega, fun e => by omega, fun _ _ _ => hc⟩ h
        · exact .inr (.inr (.inr ⟨hd, h14, h19, by omega⟩))

set_option maxHeartbeats 3200000 in
theorem v6_no (s : ByteArray) (w : World) (h36 : s.size = 36) (h : ¬ Vd s) : Calls Try.prog 6 #[.string s] w fun e w' => e = .returned (.bool false) ∧ w' = w := by
  have hb2 : ((s.size : Int) != 36) = false := by rw [bne_eq_false_iff_eq]; omega
  have hb3 : (s.size : Int) ≤ 36 := by omega
  have hb4 : (36 : Int) ≤ s.size := by omega
  obtain ⟨f, hf1, hf2, hf3⟩ := first_fall 36 (fun hh => h ⟨h36, hh⟩)
  have HF : Hid (¬ okV f (cB s f)) := hf2
  have HO : Hid (∀ i, i < f → okV i (cB s i)) := hf3
  clear h36 h hf2 hf3
  go_enter Try.func6, Try.ntmps6
  go_wp2
  go_loop [10] (fun vi => ∃ k : Nat, k ≤ f ∧ vi = .int .i64 (k : Int)) (fun vi => f - (intOf vi).toNat)
  case atStart => exact ⟨0, Nat.zero_le _, rfl⟩
  case round =>
    obtain ⟨k, hk, rfl⟩ := hrel
    have hlt : k < s.size := by omega
    by_cases hkf : k < f
    · have hc := HO.out k hkf
      rw [cB_at hlt] at hc
      by_cases k8 : k = 8
      · subst k8
        have c1 : (((s[8]'hlt).toNat : Int) != 45) = false := by rw [bne_eq_false_iff_eq]; exact hc.d (.inl rfl)
        clear hc
        go_wp2
        go_round
        case rel => exact ⟨9, by omega, by go_num⟩
        case measure => simp [intOf]; omega
      by_cases k13 : k = 13
      · subst k13
        have c1 : (((s[13]'hlt).toNat : Int) != 45) = false := by rw [bne_eq_false_iff_eq]; exact hc.d (.inr (.inl rfl))
        clear hc
        go_wp2
        go_round
        case rel => exact ⟨14, by omega, by go_num⟩
        case measure => simp [intOf]; omega
      by_cases k18 : k = 18
      · subst k18
        have c1 : (((s[18]'hlt).toNat : Int) != 45) = false := by rw [bne_eq_false_iff_eq]; exact hc.d (.inr (.inr (.inl rfl)))
        clear hc
        go_wp2
        go_round
        case rel => exact ⟨19, by omega, by go_num⟩
        case measure => simp [intOf]; omega
      by_cases k23 : k = 23
      · subst k23
        have c1 : (((s[23]'hlt).toNat : Int) != 45) = false := by rw [bne_eq_false_iff_eq]; exact hc.d (.inr (.inr (.inr rfl)))
        clear hc
        go_wp2
        go_round
        case rel => exact ⟨24, by omega, by go_num⟩
        case measure => simp [intOf]; omega
      by_cases k14 : k = 14
      · subst k14
        have c1 : (((s[14]'hlt).toNat : Int) != 55) = false := by rw [bne_eq_false_iff_eq]; exact hc.v rfl
        clear hc
        go_wp2
        go_round
        case rel => exact ⟨15, by omega, by go_num⟩
        case measure => simp [intOf]; omega
      by_cases k19 : k = 19
      · subst k19
        rcases hc.r rfl with h | h | h | h
        · clear hc
          have d56 : (((s[19]'hlt).toNat : Int) != 56) = false := by rw [bne_eq_false_iff_eq]; omega
          clear h
          go_wp2
          go_round
          case rel => exact ⟨20, by omega, by go_num⟩
          case measure => simp [intOf]; omega
        · clear hc
          have d56 : (((s[19]'hlt).toNat : Int) != 56) = true := by rw [bne_iff_ne]; omega
          have d57 : (((s[19]'hlt).toNat : Int) != 57) = false := by rw [bne_eq_false_iff_eq]; omega
          clear h
          go_wp2
          go_round
          case rel => exact ⟨20, by omega, by go_num⟩
          case measure => simp [intOf]; omega
        · clear hc
          have d56 : (((s[19]'hlt).toNat : Int) != 56) = true := by rw [bne_iff_ne]; omega
          have d57 : (((s[19]'hlt).toNat : Int) != 57) = true := by rw [bne_iff_ne]; omega
          have d97 : (((s[19]'hlt).toNat : Int) != 97) = false := by rw [bne_eq_false_iff_eq]; omega
          clear h
          go_wp2
          go_round
          case rel => exact ⟨20, by omega, by go_num⟩
          case measure => simp [intOf]; omega
        · clear hc
          have d56 : (((s[19]'hlt).toNat : Int) != 56) = true := by rw [bne_iff_ne]; omega
          have d57 : (((s[19]'hlt).toNat : Int) != 57) = true := by rw [bne_iff_ne]; omega
          have d97 : (((s[19]'hlt).toNat : Int) != 97) = true := by rw [bne_iff_ne]; omega
          have d98 : (((s[19]'hlt).toNat : Int) != 98) = false := by rw [bne_eq_false_iff_eq]; omega
          clear h
          go_wp2
          go_round
          case rel => exact ⟨20, by omega, by go_num⟩
          case measure => simp [intOf]; omega
      have e8 : ((k : Int) == 8) = false := beq_eq_false_iff_ne.2 (by omega)
      have e13 : ((k : Int) == 13) = false := beq_eq_false_iff_ne.2 (by omega)
      have e18 : ((k : Int) == 18) = false := beq_eq_false_iff_ne.2 (by omega)
      have e23 : ((k : Int) == 23) = false := beq_eq_false_iff_ne.2 (by omega)
      have e14 : ((k : Int) == 14) = false := beq_eq_false_iff_ne.2 (by omega)
      have e19 : ((k : Int) == 19) = false := beq_eq_false_iff_ne.2 (by omega)
      have ho := hc.o (by unfold dash; omega) k14 k19
      clear hc k8 k13 k18 k23 k14 k19
      rcases ho with ⟨c1, c2⟩ | ⟨c1, c2⟩
      · go_wp2
        go_round
        case rel => exact ⟨k + 1, by omega, by go_num⟩
        case measure => simp [intOf]; omega
      · go_wp2
        go_round
        case rel => exact ⟨k + 1, by omega, by go_num⟩
        case measure => simp [intOf]; omega
    · obtain rfl : k = f := by omega
      have hc := notok HF.out
      rw [cB_at hlt] at hc
      rcases hc with ⟨hd, hc⟩ | ⟨rfl, hc⟩ | ⟨rfl, c1, c2, c3, c4⟩ | ⟨hd, h14, h19, hc⟩
      · rcases hd with rfl | rfl | rfl | rfl
        · have c1 : (((s[8]'hlt).toNat : Int) != 45) = true := by rw [bne_iff_ne]; exact hc
          clear hc
          go_wp2
          go_ret
          exact ⟨rfl, rfl⟩
        · have c1 : (((s[13]'hlt).toNat : Int) != 45) = true := by rw [bne_iff_ne]; exact hc
          clear hc
          go_wp2
          go_ret
          exact ⟨rfl, rfl⟩
        · have c1 : (((s[18]'hlt).toNat : Int) != 45) = true := by rw [bne_iff_ne]; exact hc
          clear hc
          go_wp2
          go_ret
          exact ⟨rfl, rfl⟩
        · have c1 : (((s[23]'hlt).toNat : Int) != 45) = true := by rw [bne_iff_ne]; exact hc
          clear hc
          go_wp2
          go_ret
          exact ⟨rfl, rfl⟩
      · have c1 : (((s[14]'hlt).toNat : Int) != 55) = true := by rw [bne_iff_ne]; exact hc
        clear hc
        go_wp2
        go_ret
        exact ⟨rfl, rfl⟩
      · have d1 : (((s[19]'hlt).toNat : Int) != 56) = true := by rw [bne_iff_ne]; exact c1
        have d2 : (((s[19]'hlt).toNat : Int) != 57) = true := by rw [bne_iff_ne]; exact c2
        have d3 : (((s[19]'hlt).toNat : Int) != 97) = true := by rw [bne_iff_ne]; exact c3
        have d4 : (((s[19]'hlt).toNat : Int) != 98) = true := by rw [bne_iff_ne]; exact c4
        clear c1 c2 c3 c4
        go_wp2
        go_ret
        exact ⟨rfl, rfl⟩
      · unfold dash at hd
        have e8 : ((k : Int) == 8) = false := beq_eq_false_iff_ne.2 (by omega)
        have e13 : ((k : Int) == 13) = false := beq_eq_false_iff_ne.2 (by omega)
        have e18 : ((k : Int) == 18) = false := beq_eq_false_iff_ne.2 (by omega)
        have e23 : ((k : Int) == 23) = false := beq_eq_false_iff_ne.2 (by omega)
        have e14 : ((k : Int) == 14) = false := beq_eq_false_iff_ne.2 (by omega)
        have e19 : ((k : Int) == 19) = false := beq_eq_false_iff_ne.2 (by omega)
        clear hd h14 h19
        rcases hc with c1 | ⟨c1, c2⟩ | c1
        all_goals
          go_wp2
          go_ret
          exact ⟨rfl, rfl⟩
end Go.Proofs.Qxb6002784a
