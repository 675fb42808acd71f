/-
  THE CONTRACT OF encodeUvarint (14).
-/
import Derived.Test.Qxb6602753aShared
import Derived.Test.Qxb6602753aEncPlain
namespace Go.Proofs.Qxb6602753a
open Go.RowKit Go.ChangeShapes Go.WideShapes Go.ChangeAt
open Uv

/-- The cells of the groups that have been written. -/
def hiCells (x : Int) (t : Nat) : List Value := (List.range t).map fun k => .int .u8 (shr x k % 128 + 128)
theorem hiCells_length (x : Int) (t : Nat) : (hiCells x t).length = t := by simp [hiCells]
theorem hiCells_succ (x : Int) (t : Nat) : hiCells x (t + 1) = hiCells x t ++ [.int .u8 (shr x t % 128 + 128)] := by simp [hiCells, List.range_succ]
theorem enc_cells (x : Int) (t k : Nat) (hk : k < t + 1) : (hiCells x t ++ [.int .u8 (shr x t)])[k]? = some (.int .u8 (encB x t k)) := by
  unfold encB
  by_cases h : k < t
  · rw [if_pos h, List.getElem?_append_left (by rw [hiCells_length]; exact h)]
    simp [hiCells, h]
  · rw [if_neg h]
    obtain rfl : k = t := by omega
    rw [List.getElem?_append_right (by rw [hiCells_length]; omega), hiCells_length]
    simp

set_option maxHeartbeats 800000 in
theorem enc14 (x : Int) (w : World) (h0 : 0 ≤ x) (h1 : x < 18446744073709551616) :
    Calls Try.prog 14 #[.int .u64 x] w fun e w' => ∃ g cap t : Nat, t ≤ 9 ∧ shr x t < 128 ∧ e = .returned (.slice (some ⟨g, 0, none⟩) (t + 1) cap) ∧ w.heap.size ≤ g ∧ g < w'.heap.size ∧
      (∀ k, k < t + 1 → w'.cell? ⟨g, k, none⟩ = some (.int .u8 (encB x t k))) ∧ Below w.heap.size w w' := by
  obtain ⟨i0, hi, hz0, hz1, hz2⟩ := info_parts Try.info5
  obtain ⟨W0, hmk0, hown0, hgr0⟩ := run_make_own (P := Try.prog) w w.heap.size 22 5 i0 (.int .u8 0) 1 Try.underlying22 hi hz0 hz1 .i64 .i64 10 (by rw [hz2]; decide) (by unfold maxLen; decide) (Nat.le_refl _)
  have hmk : (Instr.makeSlice 22 (.int .i64 0) (.int .i64 10)).run Try.prog w = .ok (.slice (some ⟨w.heap.size, 0, none⟩) 0 10) W0 := hmk0
  clear hmk0
  have HB0 : Hid (Below w.heap.size w W0) := (Below.refl _ _).grown hgr0 (Nat.le_refl _) (fun k hk => by cases hk)
  have HO0 : Hid (W0.ownsRow w.heap.size 5 1 (.slice (some ⟨w.heap.size, 0, none⟩) 0 10) 0 []) := hown0
  clear hown0 hgr0
  go_enter Try.func14, Try.ntmps14
  go_wp2
  go_loopw [0, 3] (fun vx v wr => ∃ t : Nat, t ≤ 9 ∧ vx = .int .u64 (shr x t) ∧ wr.ownsRow w.heap.size 5 1 v t (hiCells x t) ∧ Below w.heap.size w wr) (fun vx _ _ => (intOf vx).toNat)
  case atStart => exact ⟨0, by omega, by rw [shr_zero], HO0.out, HB0.out⟩
  case round =>
    obtain ⟨t, ht, rfl, hown, hbel⟩ := hrel
    have hlo := shr_lo x h0 t
    have hhi := shr_hi x h0 h1 t
    by_cases hge : 128 ≤ shr x t
    · have hor : bits .or .u8 (shr x t % 256) 128 = shr x t % 128 + 128 := by rw [← IntKind.wrap_u8']; exact or128 (shr x t) hlo
      have hfew := shr_few x h0 h1 t hge
      have HS : Hid (hiCells x (t + 1) = hiCells x t ++ [.int .u8 (shr x t % 128 + 128)]) := hiCells_succ x t
      have HD : Hid (shr x (t + 1) = shr x t / 128) := shr_succ x t
      go_wp2_with (at_builtin; refine wpList_append_own _ rfl _ _ 22 rfl w.heap.size 5 i0 (.int .u8 0) 1 1 Try.underlying22 hi hz0 hz1 hz2 rfl (by decide) _ _ _ rfl (hown.alloc _) ⟨wr.heap.size, 0, none⟩ 1 1 [.int .u8 (shr x t % 128 + 128)] rfl rfl ?c1 ?c2 ?c3 ?c4 ?c5 ?_)
      case c1 => exact cell_one_new _ _ _
      case c2 => intro u hu; simp at hu; subst hu; rfl
      case c3 => unfold maxLen; omega
      case c4 => omega
      case c5 => have := hbel.size; simp; omega
      intro v' w1 hown' hgrow _
      have hb1 : Below w.heap.size w w1 := (hbel.alloc hbel.size _).grown hgrow (by have := hbel.size; simp; omega) (fun k hk => by
        rcases hown.2 with ⟨hv, _⟩ | ⟨g, cap, cur, hv, hg, _⟩
        · rw [hv] at hk; cases hk
        · rw [hv] at hk; cases hk; exact hg)
      rw [← HS.out] at hown'
      clear hown hgrow hor
      go_wp2
      go_roundw
      case rel => exact ⟨t + 1, by omega, by rw [HD.out], hown', hb1⟩
      case measure => simp [intOf]; omega
    · have hlt : shr x t < 128 := by omega
      go_wp2_with (at_builtin; refine wpList_append_own _ rfl _ _ 22 rfl w.heap.size 5 i0 (.int .u8 0) 1 1 Try.underlying22 hi hz0 hz1 hz2 rfl (by decide) _ _ _ rfl (hown.alloc _) ⟨wr.heap.size, 0, none⟩ 1 1 [.int .u8 (shr x t)] rfl rfl ?d1 ?d2 ?d3 ?d4 ?d5 ?_)
      case d2 => rfl
      case d3 => unfold maxLen; omega
      case d4 => omega
      case d5 => have := hbel.size; simp; omega
      intro v' w1 hown' hgrow hnn
      have hb1 : Below w.heap.size w w1 := (hbel.alloc hbel.size _).grown hgrow (by have := hbel.size; simp; omega) (fun k hk => by
        rcases hown.2 with ⟨hv, _⟩ | ⟨g, cap, cur, hv, hg, _⟩
        · rw [hv] at hk; cases hk
        · rw [hv] at hk; cases hk; exact hg)
      have hex : ∃ g cap : Nat, v' = .slice (some ⟨g, 0, none⟩) (t + 1) cap ∧ w.heap.size ≤ g ∧ g < w1.heap.size := by
        rcases hown'.2 with ⟨_, h⟩ | ⟨g, cap, cur, hv, hg, hh, _⟩
        · omega
        · exact ⟨g, cap, hv, hg, (Array.getElem?_eq_some_iff.1 hh).1⟩
      obtain ⟨g, cap, hv, hg1, hg2⟩ := hex
      have HC : Hid (∀ k, k < t + 1 → w1.cell? ⟨g, k, none⟩ = some (.int .u8 (encB x t k))) := by
        intro k hk
        rw [hv] at hown'
        rw [hown'.cellAt k (by omega)]
        exact enc_cells x t k hk
      rw [hv]
      clear hown hgrow hown' hnn hv
      have HB1 : Hid (Below w.heap.size w w1) := hb1
      clear hb1 hbel
      go_wp2
      go_ret
      exact ⟨g, cap, t, ht, hlt, rfl, hg1, hg2, HC.out, HB1.out⟩
end Go.Proofs.Qxb6602753a
