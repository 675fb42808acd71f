/-
  THE CONTRACT OF plainName (12); THE SHIMS (7, 8, 9); THE LAW's WALK (3).
-/
import Derived.Test.Qxb6001661aLabels2
import Derived.RowKit3
import Derived.Deep.LoopGhost
namespace Go.Proofs.Qxb6001661a
open Go.RowKit

theorem not_empty (s : ByteArray) (h : 0 < s.size) : s.toList.isEmpty = false := by
  rw [ByteArray.toList_eq]
  cases hl : s.data.toList with
  | nil =>
    have : s.data.size = 0 := by rw [← Array.length_toList, hl]; rfl
    rw [ByteArray.size_data] at this
    omega
  | cons _ _ => rfl

set_option maxHeartbeats 1600000 in
theorem p12_yes (s : ByteArray) (w : World) (h0 : 0 < s.size) (_hs : s.size ≤ 1048576) (hok : ∀ i, i < s.size → ok3 (cB s i)) : Calls Try.prog 12 #[.string s] w fun e w' => e = .returned (.bool true) ∧ w' = w := by
  have HO : Hid (∀ i, i < s.size → ok3 (cB s i)) := hok
  have hne := not_empty s h0
  clear hok
  go_enter Try.func12, Try.ntmps12
  go_wp2
  go_loop [3] (fun vi => ∃ k : Nat, k ≤ s.size ∧ vi = .int .i64 (k : Int)) (fun vi => s.size - (intOf vi).toNat)
  case atStart => exact ⟨0, Nat.zero_le _, rfl⟩
  case round =>
    obtain ⟨k, hk, rfl⟩ := hrel
    by_cases hlt : k < s.size
    · have hc := HO.out k hlt
      rw [cB_at hlt] at hc
      have hw : (97 ≤ ((s[k]'hlt).toNat : Int) ∧ ((s[k]'hlt).toNat : Int) ≤ 122) ∨ (48 ≤ ((s[k]'hlt).toNat : Int) ∧ ((s[k]'hlt).toNat : Int) ≤ 57) ∨ (65 ≤ ((s[k]'hlt).toNat : Int) ∧ ((s[k]'hlt).toNat : Int) ≤ 90) ∨
          (45 ≤ ((s[k]'hlt).toNat : Int) ∧ ((s[k]'hlt).toNat : Int) ≤ 45) ∨ (95 ≤ ((s[k]'hlt).toNat : Int) ∧ ((s[k]'hlt).toNat : Int) ≤ 95) := by
        unfold ok3 low at hc; omega
      clear hc
      rcases hw with ⟨c1, c2⟩ | ⟨c1, c2⟩ | ⟨c1, c2⟩ | ⟨c1, c2⟩ | ⟨c1, c2⟩
      all_goals
        go_wp2
        go_round
        case rel => exact ⟨k + 1, by omega, by go_num⟩
        case measure => simp [intOf]; omega
    · go_wp2
      go_ret
      exact ⟨rfl, rfl⟩

theorem s7 (s : ByteArray) (b : Bool) (w : World) (h : Calls Try.prog 10 #[.string s] w fun e w' => e = .returned (.bool b) ∧ w' = w) : Calls Try.prog 7 #[.string s] w fun e w' => e = .returned (.bool b) ∧ w' = w := by
  have HK : Hid (Calls Try.prog 10 #[.string s] w fun e w' => e = .returned (.bool b) ∧ w' = w) := h
  clear h
  go_enter Try.func7, Try.ntmps7
  go_wp2_with fail
  refine HK.out.mono ?_
  rintro e w' ⟨rfl, rfl⟩
  go_wp2
  go_ret
  exact ⟨rfl, rfl⟩
theorem s8 (s : ByteArray) (b : Bool) (w : World) (h : Calls Try.prog 11 #[.string s] w fun e w' => e = .returned (.bool b) ∧ w' = w) : Calls Try.prog 8 #[.string s] w fun e w' => e = .returned (.bool b) ∧ w' = w := by
  have HK : Hid (Calls Try.prog 11 #[.string s] w fun e w' => e = .returned (.bool b) ∧ w' = w) := h
  clear h
  go_enter Try.func8, Try.ntmps8
  go_wp2_with fail
  refine HK.out.mono ?_
  rintro e w' ⟨rfl, rfl⟩
  go_wp2
  go_ret
  exact ⟨rfl, rfl⟩
theorem s9 (s : ByteArray) (b : Bool) (w : World) (h : Calls Try.prog 12 #[.string s] w fun e w' => e = .returned (.bool b) ∧ w' = w) : Calls Try.prog 9 #[.string s] w fun e w' => e = .returned (.bool b) ∧ w' = w := by
  have HK : Hid (Calls Try.prog 12 #[.string s] w fun e w' => e = .returned (.bool b) ∧ w' = w) := h
  clear h
  go_enter Try.func9, Try.ntmps9
  go_wp2_with fail
  refine HK.out.mono ?_
  rintro e w' ⟨rfl, rfl⟩
  go_wp2
  go_ret
  exact ⟨rfl, rfl⟩

/-- THE PLAIN LAW. -/
theorem dns_gives {s : ByteArray} (h : Dns s) : (∀ i, i < s.size → low (cB s i) ∨ cB s i = 45) ∧ Lab s ∧ ∀ i, i < s.size → ok3 (cB s i) := by
  obtain ⟨h0, h1, h2⟩ := h
  refine ⟨fun i hi => ?_, ⟨h1, fun i hi => ?_⟩, fun i hi => ?_⟩
  · rcases h2 i hi with h | ⟨h, _⟩
    · exact .inl h
    · exact .inr h
  · rcases h2 i hi with h | ⟨h, h'⟩
    · exact .inl h
    · exact .inr (.inr ⟨.inl h, h'⟩)
  · rcases h2 i hi with h | ⟨h, _⟩
    · exact .inl h
    · exact .inr (.inr (.inl h))
theorem dns_of {s : ByteArray} (h0 : 0 < s.size) (hl : ∀ i, i < s.size → low (cB s i) ∨ cB s i = 45) (hv : Lab s) : Dns s := by
  refine ⟨h0, hv.1, fun i hi => ?_⟩
  have h1 := hl i hi
  have h2 := hv.2 i hi
  unfold ok1 ok2 low at *
  omega

theorem b5_no (c : Int) (w : World) (h : c < 97 ∨ 122 < c) : Calls Try.prog 5 #[.int .u8 c] w fun e w' => e = .returned (.bool false) ∧ w' = w := by
  by_cases h1 : c < 97
  · go_enter Try.func5, Try.ntmps5
    go_wp2
    go_ret
    exact ⟨rfl, rfl⟩
  · have h2 : 122 < c := by omega
    have h3 : decide (c ≤ 122) = false := decide_eq_false (by omega)
    go_enter Try.func5, Try.ntmps5
    go_wp2
    go_ret
    exact ⟨rfl, rfl⟩
theorem b6_no (c : Int) (w : World) (h : c < 48 ∨ 57 < c) : Calls Try.prog 6 #[.int .u8 c] w fun e w' => e = .returned (.bool false) ∧ w' = w := by
  by_cases h1 : c < 48
  · go_enter Try.func6, Try.ntmps6
    go_wp2
    go_ret
    exact ⟨rfl, rfl⟩
  · have h2 : 57 < c := by omega
    have h3 : decide (c ≤ 57) = false := decide_eq_false (by omega)
    go_enter Try.func6, Try.ntmps6
    go_wp2
    go_ret
    exact ⟨rfl, rfl⟩

/-- What the law's own flag holds behind k rounds. (Behind a name, so that the walk leaves it standing.) -/
def LowV (s : ByteArray) (k : Nat) (v : Value) : Prop := ∃ b : Bool, v = .bool b ∧ (b = true ↔ ∀ i, i < k → low (cB s i) ∨ cB s i = 45)

set_option maxHeartbeats 1600000 in
theorem law3 (s : ByteArray) (w : World) (hs : s.size ≤ 9223372036854775807) : Calls Try.prog 3 #[.string s] w fun e w' => e = .returned (.bool true) ∧ w' = w := by
  by_cases hbig : 1048576 < s.size
  · go_enter Try.func3, Try.ntmps3
    go_wp2
    go_ret
    exact ⟨rfl, rfl⟩
  have hs' : s.size ≤ 1048576 := by omega
  clear hbig
  go_enter Try.func3, Try.ntmps3
  go_wp2
  go_loopg [3, 4] s.size (fun gk vb vi wr => ∃ k : Nat, k + gk = s.size ∧ vi = .int .i64 (k : Int) ∧ LowV s k vb ∧ w = wr)
  case atStart => exact ⟨0, by omega, rfl, ⟨true, rfl, by simp⟩, rfl⟩
  case round =>
    obtain ⟨k, hk, rfl, ⟨b, rfl, hb⟩, rfl⟩ := hrel
    have HK : Hid (k + gk = s.size) := hk
    have hk' : k ≤ s.size := by omega
    clear hk
    have HB : Hid (b = true ↔ ∀ i, i < k → low (cB s i) ∨ cB s i = 45) := hb
    clear hb
    by_cases hlt : k < s.size
    · by_cases hl : low (cB s k) ∨ cB s k = 45
      · have HN : LowV s (k + 1) (.bool b) := by
          refine ⟨b, rfl, HB.out.trans ⟨fun h i hi => ?_, fun h i hi => h i (by omega)⟩⟩
          by_cases e : i = k
          · subst e; exact hl
          · exact h i (by omega)
        rw [cB_at hlt] at hl
        have hw : (97 ≤ ((s[k]'hlt).toNat : Int) ∧ ((s[k]'hlt).toNat : Int) ≤ 122) ∨ (48 ≤ ((s[k]'hlt).toNat : Int) ∧ ((s[k]'hlt).toNat : Int) ≤ 57) ∨ (45 ≤ ((s[k]'hlt).toNat : Int) ∧ ((s[k]'hlt).toNat : Int) ≤ 45) := by unfold low at hl; omega
        clear hl
        rcases hw with ⟨c1, c2⟩ | ⟨c1, c2⟩ | ⟨c1, c2⟩
        case' inr.inr => have c3 : (((s[k]'hlt).toNat : Int) == 45) = true := beq_iff_eq.2 (by omega)
        all_goals
          go_wp2
          go_roundg (gk - 1)
          case measure => have := HK.out; omega
          case rel => exact ⟨k + 1, by have := HK.out; omega, by go_num, HN, rfl⟩
      · have HN : LowV s (k + 1) (.bool false) := ⟨false, rfl, ⟨(fun h => by cases h), (fun h => absurd (h k (by omega)) hl)⟩⟩
        rw [cB_at hlt] at hl
        have hw : ((s[k]'hlt).toNat : Int) ≤ 44 ∨ (46 ≤ ((s[k]'hlt).toNat : Int) ∧ ((s[k]'hlt).toNat : Int) ≤ 47) ∨ (58 ≤ ((s[k]'hlt).toNat : Int) ∧ ((s[k]'hlt).toNat : Int) ≤ 96) ∨ 123 ≤ ((s[k]'hlt).toNat : Int) := by unfold low at hl; omega
        clear hl
        have c3 : (((s[k]'hlt).toNat : Int) == 45) = false := beq_eq_false_iff_ne.2 (by omega)
        have d5 : ((s[k]'hlt).toNat : Int) < 97 ∨ 122 < ((s[k]'hlt).toNat : Int) := by omega
        have d6 : ((s[k]'hlt).toNat : Int) < 48 ∨ 57 < ((s[k]'hlt).toNat : Int) := by omega
        have HK5 : Hid (Calls Try.prog 5 #[.int .u8 ((s[k]'hlt).toNat : Int)] w fun e w' => e = .returned (.bool false) ∧ w' = w) := b5_no _ w d5
        have HK6 : Hid (Calls Try.prog 6 #[.int .u8 ((s[k]'hlt).toNat : Int)] w fun e w' => e = .returned (.bool false) ∧ w' = w) := b6_no _ w d6
        clear hw d5 d6
        go_wp2_with fail
        refine HK5.out.mono ?_
        rintro e w' ⟨rfl, rfl⟩
        go_wp2_with fail
        refine HK6.out.mono ?_
        rintro e w' ⟨rfl, rfl⟩
        go_wp2
        go_roundg (gk - 1)
        case measure => have := HK.out; omega
        case rel => exact ⟨k + 1, by have := HK.out; omega, by go_num, HN, rfl⟩
    · obtain rfl : k = s.size := by omega
      by_cases hd : Dns s
      · have HD : Hid (Dns s) := hd
        have hb : b = true := HB.out.2 (dns_gives hd).1
        subst hb
        have h0 : 0 < (s.size : Int) := by have := hd.1; omega
        have HK7 : Hid (Calls Try.prog 7 #[.string s] w fun e w' => e = .returned (.bool true) ∧ w' = w) := s7 s true w (d10_yes s w hd)
        have HK8 : Hid (Calls Try.prog 8 #[.string s] w fun e w' => e = .returned (.bool true) ∧ w' = w) := s8 s true w (l11_yes s w (dns_gives hd).2.1)
        have HK9 : Hid (Calls Try.prog 9 #[.string s] w fun e w' => e = .returned (.bool true) ∧ w' = w) := s9 s true w (p12_yes s w hd.1 hs' (dns_gives hd).2.2)
        clear hd HB
        go_wp2_with fail
        refine HK7.out.mono ?_
        rintro e w' ⟨rfl, rfl⟩
        go_wp2_with fail
        refine HK8.out.mono ?_
        rintro e w' ⟨rfl, rfl⟩
        go_wp2_with fail
        refine HK9.out.mono ?_
        rintro e w' ⟨rfl, rfl⟩
        go_wp2
        go_ret
        exact ⟨rfl, rfl⟩
      · have HK7 : Hid (Calls Try.prog 7 #[.string s] w fun e w' => e = .returned (.bool false) ∧ w' = w) := s7 s false w (d10_no s w hs' hd)
        by_cases h0 : 0 < s.size
        · cases b
          · clear hd HB
            go_wp2_with fail
            refine HK7.out.mono ?_
            rintro e w' ⟨rfl, rfl⟩
            go_wp2
            go_ret
            exact ⟨rfl, rfl⟩
          · have hv : ¬ Lab s := fun hv => hd (dns_of h0 (HB.out.1 rfl) hv)
            have HK8 : Hid (Calls Try.prog 8 #[.string s] w fun e w' => e = .returned (.bool false) ∧ w' = w) := s8 s false w (l11_no s w hs' hv)
            clear hd hv HB
            go_wp2_with fail
            refine HK7.out.mono ?_
            rintro e w' ⟨rfl, rfl⟩
            go_wp2_with fail
            refine HK8.out.mono ?_
            rintro e w' ⟨rfl, rfl⟩
            go_wp2
            go_ret
            exact ⟨rfl, rfl⟩
        · have hd0 : decide ((0 : Int) < (s.size : Int)) = false := decide_eq_false (by omega)
          clear hd HB
          go_wp2_with fail
          refine HK7.out.mono ?_
          rintro e w' ⟨rfl, rfl⟩
          go_wp2
          go_ret
          exact ⟨rfl, rfl⟩
end Go.Proofs.Qxb6001661a
