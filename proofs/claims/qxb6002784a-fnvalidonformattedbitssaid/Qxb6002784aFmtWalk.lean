/-
  THE CONTRACT OF zzFormat (8).
-/
import Derived.Test.Qxb6002784aFmtPlain
import Derived.Deep.LoopGhost
import Derived.ProofKit
namespace Go.Proofs.Qxb6002784a
open Go.RowKit Go.ChangeShapes Go.WideShapes Go.ChangeAt

theorem Try.info5 : (Try.prog.info? 5).map (fun i => (i.zero, i.size, i.bytes)) = some (some (.int .u8 0), 1, 1) := by kernel_rfl

/-- The digits' string, indexed. -/
theorem digit_at (n : Nat) (h : n < 16) (w : World) : (Instr.index 9 (.string { data := #[48, 49, 50, 51, 52, 53, 54, 55, 56, 57, 97, 98, 99, 100, 101, 102] }) (.int .u64 (n : Int))).run Try.prog w = .ok (.int .u8 (hexc (n : Int))) w := by
  have hn : n = 0 ∨ n = 1 ∨ n = 2 ∨ n = 3 ∨ n = 4 ∨ n = 5 ∨ n = 6 ∨ n = 7 ∨ n = 8 ∨ n = 9 ∨ n = 10 ∨ n = 11 ∨ n = 12 ∨ n = 13 ∨ n = 14 ∨ n = 15 := by omega
  rcases hn with rfl | rfl | rfl | rfl | rfl | rfl | rfl | rfl | rfl | rfl | rfl | rfl | rfl | rfl | rfl | rfl <;> (refine (?_ : _ = _); exact rfl)

theorem and15 (x : Int) (h0 : 0 ≤ x) (h1 : x < 18446744073709551616) : bits .and .u64 x 15 = x % 16 := by
  rw [u64_and x 15 h0 h1 (by omega) (by omega)]
  rw [show (15 : Int).toNat = 2 ^ 4 - 1 by decide, Nat.and_two_pow_sub_one_eq_mod]
  omega

/-- One nibble, as the Go text takes it. -/
theorem nib_take (x : Int) (h0 : 0 ≤ x) (h1 : x < 18446744073709551616) (e : Int) (k : Nat) (he : e = (k : Int)) (hk : k ≤ 60) :
    ∃ n : Nat, n < 16 ∧ Op.shift .shr .u64 x .u64 e = pure (.int .u64 (x / 2 ^ k)) ∧ bits .and .u64 (x / 2 ^ k) 15 = (n : Int) ∧ (n : Int) = x / 2 ^ k % 16 := by
  have hp : (0 : Int) < 2 ^ k := Int.pow_pos (by decide)
  have hq0 : 0 ≤ x / 2 ^ k := Int.ediv_nonneg h0 (by omega)
  have hq1 : x / 2 ^ k ≤ x := Int.ediv_le_self _ h0
  refine ⟨(x / 2 ^ k % 16).toNat, by omega, ?_, ?_, by omega⟩
  · rw [he, shift_shr_any _ _ _ _ (by omega), Int.toNat_natCast, show min k IntKind.u64.bits = k by simp [IntKind.bits]; omega]
  · rw [and15 _ hq0 (by omega)]
    omega

/-- The row that the call owns holds the bytes xs. -/
def Own (w0 w : World) (v : Value) (xs : List Int) : Prop := w.ownsRow w0.heap.size 5 1 v xs.length (xs.map (Value.int .u8)) ∧ Below w0.heap.size w0 w

theorem Own.app {w0 w w1 : World} {v v' : Value} {xs : List Int} {c : Int} {O : Obj} (h : Own w0 w v xs) (ho : w1.ownsRow w0.heap.size 5 1 v' (xs.length + 1) (xs.map (Value.int .u8) ++ [.int .u8 c])) (hg : (w.alloc O).grownBy w1 v.ownBlock) : Own w0 w1 v' (xs ++ [c]) := by
  refine ⟨by simpa using ho, (h.2.alloc h.2.size O).grown hg (by have := h.2.size; simp; omega) (fun k hk => ?_)⟩
  rcases h.1.2 with ⟨hv, _⟩ | ⟨g, cap, cur, hv, hg, _⟩
  · rw [hv] at hk; cases hk
  · rw [hv] at hk; cases hk; exact hg

set_option maxHeartbeats 3200000 in
theorem f8 (hi lo : Int) (w : World) (h0 : 0 ≤ hi) (h1 : hi < 18446744073709551616) (l0 : 0 ≤ lo) (l1 : lo < 18446744073709551616) :
    Calls Try.prog 8 #[.int .u64 hi, .int .u64 lo] w fun e w' => e = .returned (.string (text fun i => hexc (nib hi lo i))) ∧ Below w.heap.size w w' := by
  obtain ⟨i0, hi0, hz0, hz1, hz2⟩ := info_parts Try.info5
  obtain ⟨W0, hmk0, hown0, hgr0⟩ := run_make_own (P := Try.prog) w w.heap.size 26 5 i0 (.int .u8 0) 1 Try.underlying26 hi0 hz0 hz1 .i64 .i64 36 (by rw [hz2]; decide) (by unfold maxLen; decide) (Nat.le_refl _)
  have hmk : (Instr.makeSlice 26 (.int .i64 0) (.int .i64 36)).run Try.prog w = .ok (.slice (some ⟨w.heap.size, 0, none⟩) 0 36) W0 := hmk0
  have HO0 : Hid (Own w W0 (.slice (some ⟨w.heap.size, 0, none⟩) 0 36) []) := ⟨hown0, (Below.refl _ _).grown hgr0 (Nat.le_refl _) (fun k hk => by cases hk)⟩
  have HH : Hid (0 ≤ hi ∧ hi < 18446744073709551616 ∧ 0 ≤ lo ∧ lo < 18446744073709551616) := ⟨h0, h1, l0, l1⟩
  obtain ⟨G, hG⟩ : ∃ G : Nat → Int, G = fun i => hexc (nib hi lo i) := ⟨_, rfl⟩
  have HG : Hid (G = fun i => hexc (nib hi lo i)) := hG
  rw [← hG]
  clear hmk0 hown0 hgr0 h0 h1 l0 l1 hG
  go_enter Try.func8, Try.ntmps8
  go_wp2
  go_loopg [5, 6] 32 (fun gk v vi wr => ∃ k : Nat, k + gk = 32 ∧ vi = .int .i64 (k : Int) ∧ Own w wr v (F G k)) 
  case atStart => exact ⟨0, rfl, rfl, HO0.out⟩
  case round =>
    obtain ⟨k, hk, rfl, hown⟩ := hrel
    have HK : Hid (k + gk = 32) := hk
    have hkle : k ≤ 32 := by omega
    have HO : Hid (Own w wr u5 (F G k)) := hown
    clear hk hown
    by_cases hlt : k < 32
    · have hl := F_len G k
      by_cases h16 : k < 16
      · obtain ⟨n, hn, hsh, hand, hnn⟩ := nib_take hi HH.out.1 HH.out.2.1 (60 - 4 * (k : Int)) (60 - 4 * k) (by omega) (by omega)
        have HN : Hid (G k = hexc (n : Int)) := by rw [HG.out]; show hexc (nib hi lo k) = _; unfold nib; rw [if_pos h16, hnn]
        have hidx := digit_at n hn
        clear hnn
        by_cases hd : k = 8
        · have e8 : ((k : Int) == 8) = true := beq_iff_eq.2 (by omega)
          have HDD : Hid (k = 8) := hd
          clear hd
          go_wp2_with (at_builtin; refine wpList_append_own _ rfl (.tmp 27) (.tmp 28) 26 rfl w.heap.size 5 i0 (.int .u8 0) 1 1 Try.underlying26 hi0 hz0 hz1 hz2 rfl (by decide) _ _ _ rfl (HO.out.1.alloc _) ⟨wr.heap.size, 0, none⟩ 1 1 [.int .u8 45] rfl rfl ?p1x1 ?p1x2 ?p1x3 ?p1x4 ?p1x5 ?_)
          case p1x1 => exact cell_one_new _ _ _
          case p1x2 => intro u hu; simp at hu; subst hu; rfl
          case p1x3 => unfold maxLen; simp; omega
          case p1x4 => simp; omega
          case p1x5 => have := HO.out.2.size; simp; omega
          intro v1 w1 ho1 hg1 _
          have HO1 : Hid (Own w w1 v1 (F G k ++ [45])) := HO.out.app ho1 hg1
          clear ho1 hg1
          go_wp2_with (at_builtin; refine wpList_append_own _ rfl (.tmp 47) (.tmp 50) 26 rfl w.heap.size 5 i0 (.int .u8 0) 1 1 Try.underlying26 hi0 hz0 hz1 hz2 rfl (by decide) _ _ _ rfl (HO1.out.1.alloc _) ⟨w1.heap.size, 0, none⟩ 1 1 [.int .u8 (hexc (n : Int))] rfl rfl ?p2x1 ?p2x2 ?p2x3 ?p2x4 ?p2x5 ?_)
          case p2x1 => exact cell_one_new _ _ _
          case p2x2 => intro u hu; simp at hu; subst hu; rfl
          case p2x3 => unfold maxLen; simp; omega
          case p2x4 => simp; omega
          case p2x5 => have := HO1.out.2.size; simp; omega
          intro v2 w2 ho2 hg2 _
          have HN2 : Hid (Own w w2 v2 (F G (k + 1))) := by rw [F_yes G (by have := HDD.out; omega), HN.out]; exact HO1.out.app (by simpa using ho2) hg2
          clear ho2 hg2 hsh hand hidx
          go_wp2
          go_roundg (gk - 1)
          case measure => have := HK.out; omega
          case rel => exact ⟨k + 1, by have := HK.out; omega, by go_num, HN2.out⟩
        have hne := hd
        clear hd
        by_cases hd : k = 12
        · have e8 : ((k : Int) == 8) = false := beq_eq_false_iff_ne.2 (by omega)
          have e12 : ((k : Int) == 12) = true := beq_iff_eq.2 (by omega)
          have HDD : Hid (k = 12) := hd
          clear hd
          go_wp2_with (at_builtin; refine wpList_append_own _ rfl (.tmp 27) (.tmp 28) 26 rfl w.heap.size 5 i0 (.int .u8 0) 1 1 Try.underlying26 hi0 hz0 hz1 hz2 rfl (by decide) _ _ _ rfl (HO.out.1.alloc _) ⟨wr.heap.size, 0, none⟩ 1 1 [.int .u8 45] rfl rfl ?p3x1 ?p3x2 ?p3x3 ?p3x4 ?p3x5 ?_)
          case p3x1 => exact cell_one_new _ _ _
          case p3x2 => intro u hu; simp at hu; subst hu; rfl
          case p3x3 => unfold maxLen; simp; omega
          case p3x4 => simp; omega
          case p3x5 => have := HO.out.2.size; simp; omega
          intro v1 w1 ho1 hg1 _
          have HO1 : Hid (Own w w1 v1 (F G k ++ [45])) := HO.out.app ho1 hg1
          clear ho1 hg1
          go_wp2_with (at_builtin; refine wpList_append_own _ rfl (.tmp 47) (.tmp 50) 26 rfl w.heap.size 5 i0 (.int .u8 0) 1 1 Try.underlying26 hi0 hz0 hz1 hz2 rfl (by decide) _ _ _ rfl (HO1.out.1.alloc _) ⟨w1.heap.size, 0, none⟩ 1 1 [.int .u8 (hexc (n : Int))] rfl rfl ?p4x1 ?p4x2 ?p4x3 ?p4x4 ?p4x5 ?_)
          case p4x1 => exact cell_one_new _ _ _
          case p4x2 => intro u hu; simp at hu; subst hu; rfl
          case p4x3 => unfold maxLen; simp; omega
          case p4x4 => simp; omega
          case p4x5 => have := HO1.out.2.size; simp; omega
          intro v2 w2 ho2 hg2 _
          have HN2 : Hid (Own w w2 v2 (F G (k + 1))) := by rw [F_yes G (by have := HDD.out; omega), HN.out]; exact HO1.out.app (by simpa using ho2) hg2
          clear ho2 hg2 hsh hand hidx
          go_wp2
          go_roundg (gk - 1)
          case measure => have := HK.out; omega
          case rel => exact ⟨k + 1, by have := HK.out; omega, by go_num, HN2.out⟩
        have e8 : ((k : Int) == 8) = false := beq_eq_false_iff_ne.2 (by omega)
        have e12 : ((k : Int) == 12) = false := beq_eq_false_iff_ne.2 (by omega)
        have e16 : ((k : Int) == 16) = false := beq_eq_false_iff_ne.2 (by omega)
        have e20 : ((k : Int) == 20) = false := beq_eq_false_iff_ne.2 (by omega)
        go_wp2_with (at_builtin; refine wpList_append_own _ rfl (.tmp 47) (.tmp 50) 26 rfl w.heap.size 5 i0 (.int .u8 0) 1 1 Try.underlying26 hi0 hz0 hz1 hz2 rfl (by decide) _ _ _ rfl (HO.out.1.alloc _) ⟨wr.heap.size, 0, none⟩ 1 1 [.int .u8 (hexc (n : Int))] rfl rfl ?p5x1 ?p5x2 ?p5x3 ?p5x4 ?p5x5 ?_)
        case p5x1 => exact cell_one_new _ _ _
        case p5x2 => intro u hu; simp at hu; subst hu; rfl
        case p5x3 => unfold maxLen; simp; omega
        case p5x4 => simp; omega
        case p5x5 => have := HO.out.2.size; simp; omega
        intro v2 w2 ho2 hg2 _
        have HN2 : Hid (Own w w2 v2 (F G (k + 1))) := by rw [F_no G (by omega), HN.out]; exact HO.out.app ho2 hg2
        clear ho2 hg2 hsh hand hidx
        go_wp2
        go_roundg (gk - 1)
        case measure => have := HK.out; omega
        case rel => exact ⟨k + 1, by have := HK.out; omega, by go_num, HN2.out⟩
      · obtain ⟨n, hn, hsh, hand, hnn⟩ := nib_take lo HH.out.2.2.1 HH.out.2.2.2 (60 - 4 * ((k : Int) - 16)) (60 - 4 * (k - 16)) (by omega) (by omega)
        have HN : Hid (G k = hexc (n : Int)) := by rw [HG.out]; show hexc (nib hi lo k) = _; unfold nib; rw [if_neg h16, hnn]
        have hidx := digit_at n hn
        clear hnn
        by_cases hd : k = 16
        · have e8 : ((k : Int) == 8) = false := beq_eq_false_iff_ne.2 (by omega)
          have e12 : ((k : Int) == 12) = false := beq_eq_false_iff_ne.2 (by omega)
          have e16 : ((k : Int) == 16) = true := beq_iff_eq.2 (by omega)
          have HDD : Hid (k = 16) := hd
          clear hd
          go_wp2_with (at_builtin; refine wpList_append_own _ rfl (.tmp 27) (.tmp 28) 26 rfl w.heap.size 5 i0 (.int .u8 0) 1 1 Try.underlying26 hi0 hz0 hz1 hz2 rfl (by decide) _ _ _ rfl (HO.out.1.alloc _) ⟨wr.heap.size, 0, none⟩ 1 1 [.int .u8 45] rfl rfl ?p6x1 ?p6x2 ?p6x3 ?p6x4 ?p6x5 ?_)
          case p6x1 => exact cell_one_new _ _ _
          case p6x2 => intro u hu; simp at hu; subst hu; rfl
          case p6x3 => unfold maxLen; simp; omega
          case p6x4 => simp; omega
          case p6x5 => have := HO.out.2.size; simp; omega
          intro v1 w1 ho1 hg1 _
          have HO1 : Hid (Own w w1 v1 (F G k ++ [45])) := HO.out.app ho1 hg1
          clear ho1 hg1
          go_wp2_with (at_builtin; refine wpList_append_own _ rfl (.tmp 47) (.tmp 50) 26 rfl w.heap.size 5 i0 (.int .u8 0) 1 1 Try.underlying26 hi0 hz0 hz1 hz2 rfl (by decide) _ _ _ rfl (HO1.out.1.alloc _) ⟨w1.heap.size, 0, none⟩ 1 1 [.int .u8 (hexc (n : Int))] rfl rfl ?p7x1 ?p7x2 ?p7x3 ?p7x4 ?p7x5 ?_)
          case p7x1 => exact cell_one_new _ _ _
          case p7x2 => intro u hu; simp at hu; subst hu; rfl
          case p7x3 => unfold maxLen; simp; omega
          case p7x4 => simp; omega
          case p7x5 => have := HO1.out.2.size; simp; omega
          intro v2 w2 ho2 hg2 _
          have HN2 : Hid (Own w w2 v2 (F G (k + 1))) := by rw [F_yes G (by have := HDD.out; omega), HN.out]; exact HO1.out.app (by simpa using ho2) hg2
          clear ho2 hg2 hsh hand hidx
          go_wp2
          go_roundg (gk - 1)
          case measure => have := HK.out; omega
          case rel => exact ⟨k + 1, by have := HK.out; omega, by go_num, HN2.out⟩
        have hne := hd
        clear hd
        by_cases hd : k = 20
        · have e8 : ((k : Int) == 8) = false := beq_eq_false_iff_ne.2 (by omega)
          have e12 : ((k : Int) == 12) = false := beq_eq_false_iff_ne.2 (by omega)
          have e16 : ((k : Int) == 16) = false := beq_eq_false_iff_ne.2 (by omega)
          have e20 : ((k : Int) == 20) = true := beq_iff_eq.2 (by omega)
          have HDD : Hid (k = 20) := hd
          clear hd
          go_wp2_with (at_builtin; refine wpList_append_own _ rfl (.tmp 27) (.tmp 28) 26 rfl w.heap.size 5 i0 (.int .u8 0) 1 1 Try.underlying26 hi0 hz0 hz1 hz2 rfl (by decide) _ _ _ rfl (HO.out.1.alloc _) ⟨wr.heap.size, 0, none⟩ 1 1 [.int .u8 45] rfl rfl ?p8x1 ?p8x2 ?p8x3 ?p8x4 ?p8x5 ?_)
          case p8x1 => exact cell_one_new _ _ _
          case p8x2 => intro u hu; simp at hu; subst hu; rfl
          case p8x3 => unfold maxLen; simp; omega
          case p8x4 => simp; omega
          case p8x5 => have := HO.out.2.size; simp; omega
          intro v1 w1 ho1 hg1 _
          have HO1 : Hid (Own w w1 v1 (F G k ++ [45])) := HO.out.app ho1 hg1
          clear ho1 hg1
          go_wp2_with (at_builtin; refine wpList_append_own _ rfl (.tmp 47) (.tmp 50) 26 rfl w.heap.size 5 i0 (.int .u8 0) 1 1 Try.underlying26 hi0 hz0 hz1 hz2 rfl (by decide) _ _ _ rfl (HO1.out.1.alloc _) ⟨w1.heap.size, 0, none⟩ 1 1 [.int .u8 (hexc (n : Int))] rfl rfl ?p9x1 ?p9x2 ?p9x3 ?p9x4 ?p9x5 ?_)
          case p9x1 => exact cell_one_new _ _ _
          case p9x2 => intro u hu; simp at hu; subst hu; rfl
          case p9x3 => unfold maxLen; simp; omega
          case p9x4 => simp; omega
          case p9x5 => have := HO1.out.2.size; simp; omega
          intro v2 w2 ho2 hg2 _
          have HN2 : Hid (Own w w2 v2 (F G (k + 1))) := by rw [F_yes G (by have := HDD.out; omega), HN.out]; exact HO1.out.app (by simpa using ho2) hg2
          clear ho2 hg2 hsh hand hidx
          go_wp2
          go_roundg (gk - 1)
          case measure => have := HK.out; omega
          case rel => exact ⟨k + 1, by have := HK.out; omega, by go_num, HN2.out⟩
        have e8 : ((k : Int) == 8) = false := beq_eq_false_iff_ne.2 (by omega)
        have e12 : ((k : Int) == 12) = false := beq_eq_false_iff_ne.2 (by omega)
        have e16 : ((k : Int) == 16) = false := beq_eq_false_iff_ne.2 (by omega)
        have e20 : ((k : Int) == 20) = false := beq_eq_false_iff_ne.2 (by omega)
        go_wp2_with (at_builtin; refine wpList_append_own _ rfl (.tmp 47) (.tmp 50) 26 rfl w.heap.size 5 i0 (.int .u8 0) 1 1 Try.underlying26 hi0 hz0 hz1 hz2 rfl (by decide) _ _ _ rfl (HO.out.1.alloc _) ⟨wr.heap.size, 0, none⟩ 1 1 [.int .u8 (hexc (n : Int))] rfl rfl ?p10x1 ?p10x2 ?p10x3 ?p10x4 ?p10x5 ?_)
        case p10x1 => exact cell_one_new _ _ _
        case p10x2 => intro u hu; simp at hu; subst hu; rfl
        case p10x3 => unfold maxLen; simp; omega
        case p10x4 => simp; omega
        case p10x5 => have := HO.out.2.size; simp; omega
        intro v2 w2 ho2 hg2 _
        have HN2 : Hid (Own w w2 v2 (F G (k + 1))) := by rw [F_no G (by omega), HN.out]; exact HO.out.app ho2 hg2
        clear ho2 hg2 hsh hand hidx
        go_wp2
        go_roundg (gk - 1)
        case measure => have := HK.out; omega
        case rel => exact ⟨k + 1, by have := HK.out; omega, by go_num, HN2.out⟩
    · obtain rfl : k = 32 := by omega
      have hlen : (F G 32).length = 36 := by rw [F_all]; simp
      obtain ⟨g, cap, hv, hcell⟩ : ∃ g cap, u5 = .slice (some ⟨g, 0, none⟩) 36 cap ∧ ∀ i, i < 36 → wr.cell? ⟨g, 0 + i, none⟩ = some (.int .u8 ((F G 32).getD i 0)) := by
        have ho := HO.out.1
        rcases ho.2 with ⟨_, hz⟩ | ⟨g, cap, cur, hv, _⟩
        · omega
        · refine ⟨g, cap, by rw [hv, hlen], fun i hi => ?_⟩
          rw [hv] at ho
          rw [Nat.zero_add, ho.cellAt i (by omega)]
          simp [List.getD, List.getElem?_eq_getElem (show i < (F G 32).length by omega)]
      subst hv
      have hcv := run_convert_bytes_arg (P := Try.prog) wr 26 5 Try.underlying26 Try.underlying5 g 0 36 cap (F G 32) hlen hcell 9 Try.underlying9
      rw [F_all] at hcv
      have HBel : Hid (Below w.heap.size w wr) := HO.out.2
      obtain ⟨T, hT⟩ : ∃ T, T = text G := ⟨_, rfl⟩
      have hcv2 : (convert 26 9 (.slice (some ⟨g, 0, none⟩) 36 cap)).run Try.prog wr = .ok (.string T) wr := by rw [hT]; exact hcv
      have HTT : Hid (T = text G) := hT
      clear hcv hcell hlen HO hT
      go_wp2
      go_ret
      exact ⟨by rw [← HTT.out]; rfl, HBel.out⟩
end Go.Proofs.Qxb6002784a
