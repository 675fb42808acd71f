/-
  THE CONTRACTS OF zzBytes_Fn.. (16, 25, 28) AND OF historyFits (17).
-/
import Derived.Test.Qxb6602753aHistIn
import Derived.Test.Qxb6602753aHist
namespace Go.Proofs.Qxb6602753a
open Go.RowKit Go.ChangeShapes Go.WideShapes Go.ChangeAt
open Uv

/-- It returns a bool. (Behind a name of its own, so that the walk leaves it standing.) -/
def IsB (e : Ending) : Prop := ∃ bb, e = .returned (.bool bb)
/-- It returns a bool, and where that is true the history is small. -/
def Fits (L : Nat → Nat) (m : Nat) (e : Ending) : Prop := ∃ bb, e = .returned (.bool bb) ∧ (bb = true → m ≤ 65536 ∧ tot L (m + 1) ≤ 1048576)

set_option maxHeartbeats 800000 in
theorem z16 (a1 : Option Addr) (m c1 : Nat) (A : Nat → Option Addr) (L C : Nat → Nat) (B : Nat → Nat → Int) (prev : Int) (w : World) (hin : HIn w a1 m A L C B) :
    Calls Try.prog 16 #[.slice (A 0) (L 0) (C 0), .slice a1 m c1, .int .i64 prev] w fun e w' => IsB e ∧ w' = w := by
  have hm := hin.mlt
  have hl0 := (hin.cap 0 (Nat.zero_le _))
  obtain ⟨l0, hl⟩ : ∃ l0, l0 = L 0 := ⟨_, rfl⟩
  rw [← hl] at hl0 ⊢
  obtain ⟨a0, ha0⟩ : ∃ a0, a0 = A 0 := ⟨_, rfl⟩
  obtain ⟨c0, hc0⟩ : ∃ c0, c0 = C 0 := ⟨_, rfl⟩
  rw [← ha0, ← hc0]
  rw [← hc0] at hl0
  have HI : Hid (HIn w a1 m A L C B) := hin
  clear hin hl ha0 hc0
  by_cases h1 : 1048576 < l0
  · go_enter Try.func16, Try.ntmps16
    go_wp2
    go_ret
    exact ⟨⟨_, rfl⟩, rfl⟩
  by_cases h2 : 1048576 < m
  · go_enter Try.func16, Try.ntmps16
    go_wp2
    go_ret
    exact ⟨⟨_, rfl⟩, rfl⟩
  by_cases h3 : 1048576 < l0 + m
  · go_enter Try.func16, Try.ntmps16
    go_wp2
    go_ret
    exact ⟨⟨_, rfl⟩, rfl⟩
  go_enter Try.func16, Try.ntmps16
  go_wp2
  go_loop [7, 8] (fun vn vk => ∃ n k : Nat, k ≤ m ∧ n ≤ 1048576 ∧ vn = .int .i64 (n : Int) ∧ vk = .int .i64 (k : Int)) (fun _ vk => m - (intOf vk).toNat)
  case atStart => exact ⟨l0 + m, 0, Nat.zero_le _, by omega, by go_num, rfl⟩
  case round =>
    obtain ⟨n, k, hk, hn, rfl, rfl⟩ := hrel
    by_cases hlt : k < m
    · obtain ⟨b, off, ha, hblt, hcP⟩ := HI.out.top (by omega)
      subst ha
      have hck := hcP k hlt
      have hlk := (HI.out.cap (k + 1) (by omega))
      obtain ⟨lk, hlk'⟩ : ∃ lk, lk = L (k + 1) := ⟨_, rfl⟩
      rw [← hlk'] at hlk hck
      clear hcP hlk'
      by_cases h5 : 1048576 < lk
      · go_wp2
        go_ret
        exact ⟨⟨_, rfl⟩, rfl⟩
      by_cases h6 : 1048576 < n + lk
      · go_wp2
        go_ret
        exact ⟨⟨_, rfl⟩, rfl⟩
      go_wp2
      go_round
      case rel => exact ⟨n + lk, k + 1, by omega, by omega, by go_num, by go_num⟩
      case measure => simp [intOf]; omega
    · go_wp2
      go_ret
      exact ⟨⟨_, rfl⟩, rfl⟩
set_option maxHeartbeats 800000 in
theorem z25 (a1 : Option Addr) (m c1 : Nat) (A : Nat → Option Addr) (L C : Nat → Nat) (B : Nat → Nat → Int) (prev hor new : Int) (w : World) (hin : HIn w a1 m A L C B) :
    Calls Try.prog 25 #[.slice (A 0) (L 0) (C 0), .slice a1 m c1, .int .i64 prev, .int .i64 hor, .int .i64 new] w fun e w' => IsB e ∧ w' = w := by
  have hm := hin.mlt
  have hl0 := (hin.cap 0 (Nat.zero_le _))
  obtain ⟨l0, hl⟩ : ∃ l0, l0 = L 0 := ⟨_, rfl⟩
  rw [← hl] at hl0 ⊢
  obtain ⟨a0, ha0⟩ : ∃ a0, a0 = A 0 := ⟨_, rfl⟩
  obtain ⟨c0, hc0⟩ : ∃ c0, c0 = C 0 := ⟨_, rfl⟩
  rw [← ha0, ← hc0]
  rw [← hc0] at hl0
  have HI : Hid (HIn w a1 m A L C B) := hin
  clear hin hl ha0 hc0
  by_cases h1 : 1048576 < l0
  · go_enter Try.func25, Try.ntmps25
    go_wp2
    go_ret
    exact ⟨⟨_, rfl⟩, rfl⟩
  by_cases h2 : 1048576 < m
  · go_enter Try.func25, Try.ntmps25
    go_wp2
    go_ret
    exact ⟨⟨_, rfl⟩, rfl⟩
  by_cases h3 : 1048576 < l0 + m
  · go_enter Try.func25, Try.ntmps25
    go_wp2
    go_ret
    exact ⟨⟨_, rfl⟩, rfl⟩
  go_enter Try.func25, Try.ntmps25
  go_wp2
  go_loop [11, 12] (fun vn vk => ∃ n k : Nat, k ≤ m ∧ n ≤ 1048576 ∧ vn = .int .i64 (n : Int) ∧ vk = .int .i64 (k : Int)) (fun _ vk => m - (intOf vk).toNat)
  case atStart => exact ⟨l0 + m, 0, Nat.zero_le _, by omega, by go_num, rfl⟩
  case round =>
    obtain ⟨n, k, hk, hn, rfl, rfl⟩ := hrel
    by_cases hlt : k < m
    · obtain ⟨b, off, ha, hblt, hcP⟩ := HI.out.top (by omega)
      subst ha
      have hck := hcP k hlt
      have hlk := (HI.out.cap (k + 1) (by omega))
      obtain ⟨lk, hlk'⟩ : ∃ lk, lk = L (k + 1) := ⟨_, rfl⟩
      rw [← hlk'] at hlk hck
      clear hcP hlk'
      by_cases h5 : 1048576 < lk
      · go_wp2
        go_ret
        exact ⟨⟨_, rfl⟩, rfl⟩
      by_cases h6 : 1048576 < n + lk
      · go_wp2
        go_ret
        exact ⟨⟨_, rfl⟩, rfl⟩
      go_wp2
      go_round
      case rel => exact ⟨n + lk, k + 1, by omega, by omega, by go_num, by go_num⟩
      case measure => simp [intOf]; omega
    · go_wp2
      go_ret
      exact ⟨⟨_, rfl⟩, rfl⟩

set_option maxHeartbeats 800000 in
theorem z28 (a1 : Option Addr) (m c1 : Nat) (A : Nat → Option Addr) (L C : Nat → Nat) (B : Nat → Nat → Int) (prev hor new : Int) (w : World) (hin : HIn w a1 m A L C B) :
    Calls Try.prog 28 #[.slice (A 0) (L 0) (C 0), .slice a1 m c1, .int .i64 prev, .int .i64 hor, .int .i64 new] w fun e w' => IsB e ∧ w' = w := by
  have hm := hin.mlt
  have hl0 := (hin.cap 0 (Nat.zero_le _))
  obtain ⟨l0, hl⟩ : ∃ l0, l0 = L 0 := ⟨_, rfl⟩
  rw [← hl] at hl0 ⊢
  obtain ⟨a0, ha0⟩ : ∃ a0, a0 = A 0 := ⟨_, rfl⟩
  obtain ⟨c0, hc0⟩ : ∃ c0, c0 = C 0 := ⟨_, rfl⟩
  rw [← ha0, ← hc0]
  rw [← hc0] at hl0
  have HI : Hid (HIn w a1 m A L C B) := hin
  clear hin hl ha0 hc0
  by_cases h1 : 1048576 < l0
  · go_enter Try.func28, Try.ntmps28
    go_wp2
    go_ret
    exact ⟨⟨_, rfl⟩, rfl⟩
  by_cases h2 : 1048576 < m
  · go_enter Try.func28, Try.ntmps28
    go_wp2
    go_ret
    exact ⟨⟨_, rfl⟩, rfl⟩
  by_cases h3 : 1048576 < l0 + m
  · go_enter Try.func28, Try.ntmps28
    go_wp2
    go_ret
    exact ⟨⟨_, rfl⟩, rfl⟩
  go_enter Try.func28, Try.ntmps28
  go_wp2
  go_loop [11, 12] (fun vn vk => ∃ n k : Nat, k ≤ m ∧ n ≤ 1048576 ∧ vn = .int .i64 (n : Int) ∧ vk = .int .i64 (k : Int)) (fun _ vk => m - (intOf vk).toNat)
  case atStart => exact ⟨l0 + m, 0, Nat.zero_le _, by omega, by go_num, rfl⟩
  case round =>
    obtain ⟨n, k, hk, hn, rfl, rfl⟩ := hrel
    by_cases hlt : k < m
    · obtain ⟨b, off, ha, hblt, hcP⟩ := HI.out.top (by omega)
      subst ha
      have hck := hcP k hlt
      have hlk := (HI.out.cap (k + 1) (by omega))
      obtain ⟨lk, hlk'⟩ : ∃ lk, lk = L (k + 1) := ⟨_, rfl⟩
      rw [← hlk'] at hlk hck
      clear hcP hlk'
      by_cases h5 : 1048576 < lk
      · go_wp2
        go_ret
        exact ⟨⟨_, rfl⟩, rfl⟩
      by_cases h6 : 1048576 < n + lk
      · go_wp2
        go_ret
        exact ⟨⟨_, rfl⟩, rfl⟩
      go_wp2
      go_round
      case rel => exact ⟨n + lk, k + 1, by omega, by omega, by go_num, by go_num⟩
      case measure => simp [intOf]; omega
    · go_wp2
      go_ret
      exact ⟨⟨_, rfl⟩, rfl⟩

set_option maxHeartbeats 800000 in
theorem f17 (a1 : Option Addr) (m c1 : Nat) (A : Nat → Option Addr) (L C : Nat → Nat) (B : Nat → Nat → Int) (w : World) (hin : HIn w a1 m A L C B) :
    Calls Try.prog 17 #[.slice (A 0) (L 0) (C 0), .slice a1 m c1] w fun e w' => Fits L m e ∧ w' = w := by
  have hm := hin.mlt
  have hl0 := (hin.cap 0 (Nat.zero_le _))
  obtain ⟨l0, hl⟩ : ∃ l0, l0 = L 0 := ⟨_, rfl⟩
  have HL : Hid (tot L 1 = l0) := by rw [hl]; show tot L 1 = _; simp [tot]
  rw [← hl] at hl0 ⊢
  obtain ⟨a0, ha0⟩ : ∃ a0, a0 = A 0 := ⟨_, rfl⟩
  obtain ⟨c0, hc0⟩ : ∃ c0, c0 = C 0 := ⟨_, rfl⟩
  rw [← ha0, ← hc0]
  rw [← hc0] at hl0
  have HI : Hid (HIn w a1 m A L C B) := hin
  clear hin hl ha0 hc0
  by_cases h1 : 1048576 < l0
  · go_enter Try.func17, Try.ntmps17
    go_wp2
    go_ret
    exact ⟨⟨_, rfl, fun h => by cases h⟩, rfl⟩
  by_cases h2 : 65536 < m
  · go_enter Try.func17, Try.ntmps17
    go_wp2
    go_ret
    exact ⟨⟨_, rfl, fun h => by cases h⟩, rfl⟩
  by_cases h3 : 1048576 < l0 + 24 * m
  · go_enter Try.func17, Try.ntmps17
    go_wp2
    go_ret
    exact ⟨⟨_, rfl, fun h => by cases h⟩, rfl⟩
  go_enter Try.func17, Try.ntmps17
  go_wp2
  go_loop [5, 6] (fun vn vk => ∃ n k : Nat, k ≤ m ∧ n ≤ 1048576 ∧ tot L (k + 1) ≤ n ∧ vn = .int .i64 (n : Int) ∧ vk = .int .i64 (k : Int)) (fun _ vk => m - (intOf vk).toNat)
  case atStart => exact ⟨l0 + 24 * m, 0, Nat.zero_le _, by omega, by rw [HL.out]; omega, by go_num, rfl⟩
  case round =>
    obtain ⟨n, k, hk, hn, ht, rfl, rfl⟩ := hrel
    have HT : Hid (tot L (k + 1) ≤ n) := ht
    clear ht
    by_cases hlt : k < m
    · obtain ⟨b, off, ha, hblt, hcP⟩ := HI.out.top (by omega)
      subst ha
      have hck := hcP k hlt
      have hlk := (HI.out.cap (k + 1) (by omega))
      obtain ⟨lk, hlk'⟩ : ∃ lk, lk = L (k + 1) := ⟨_, rfl⟩
      rw [← hlk'] at hlk hck
      have HT2 : Hid (tot L (k + 1 + 1) ≤ n + lk) := by have := HT.out; show tot L (k + 1) + L (k + 1) ≤ _; omega
      clear hcP hlk'
      by_cases h5 : 1048576 < lk
      · go_wp2
        go_ret
        exact ⟨⟨_, rfl, fun h => by cases h⟩, rfl⟩
      by_cases h6 : 1048576 < n + lk
      · go_wp2
        go_ret
        exact ⟨⟨_, rfl, fun h => by cases h⟩, rfl⟩
      go_wp2
      go_round
      case rel => exact ⟨n + lk, k + 1, by omega, by omega, HT2.out, by go_num, by go_num⟩
      case measure => simp [intOf]; omega
    · obtain rfl : k = m := by omega
      go_wp2
      go_ret
      exact ⟨⟨_, rfl, fun _ => ⟨by omega, by have := HT.out; omega⟩⟩, rfl⟩
end Go.Proofs.Qxb6602753a
