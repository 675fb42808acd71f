/-
  A ROW OF BYTES THAT THE CALL MAKES AND FILLS FROM ITS HEAD ON.
-/
import Derived.Test.Qxb6602753aShared
namespace Go.Proofs.Qxb6602753a
open Go.RowKit Go.ChangeShapes Go.WideShapes Go.ChangeAt

/-- Block g, a row of 'tot' bytes of the call's own, holds C at its first m places. -/
def Fil (w : World) (g tot : Nat) (C : Nat → Int) (m : Nat) : Prop :=
  ∃ xs, w.ownsRow g 5 1 (.slice (some ⟨g, 0, none⟩) tot tot) tot xs ∧ xs.length = tot ∧ ∀ k, k < m → xs[k]? = some (.int .u8 (C k))

theorem Fil.cell {w : World} {g tot m : Nat} {C : Nat → Int} (h : Fil w g tot C m) (k : Nat) (hk : k < tot) : ∃ v, w.cell? ⟨g, k, none⟩ = some v := by
  obtain ⟨xs, ho, hl, _⟩ := h
  rw [ho.cellAt k (by omega)]
  exact ⟨_, List.getElem?_eq_getElem (by omega)⟩
theorem Fil.froz {w : World} {g tot m : Nat} {C : Nat → Int} (h : Fil w g tot C m) (k : Nat) : w.frozen? ⟨g, k, none⟩ = false := by
  obtain ⟨xs, ho, _⟩ := h
  exact ho.frozenAt k
theorem Fil.get {w : World} {g tot m : Nat} {C : Nat → Int} (h : Fil w g tot C m) (hm : m ≤ tot) (k : Nat) (hk : k < m) : w.cell? ⟨g, k, none⟩ = some (.int .u8 (C k)) := by
  obtain ⟨xs, ho, hl, hx⟩ := h
  rw [ho.cellAt k (by omega)]
  exact hx k hk
theorem Fil.lt {w : World} {g tot m : Nat} {C : Nat → Int} (h : Fil w g tot C m) : g < w.heap.size := by
  obtain ⟨xs, ho, _⟩ := h
  rcases ho.2 with ⟨h', _⟩ | ⟨g', cap', cur, h', _, hg, _⟩
  · simp at h'
  · simp only [Value.slice.injEq, Option.some.injEq, Addr.mk.injEq, and_true, true_and] at h'
    obtain ⟨rfl, rfl⟩ := h'
    exact (Array.getElem?_eq_some_iff.1 hg).1
theorem Fil.step {w : World} {g tot m : Nat} {C : Nat → Int} (h : Fil w g tot C m) (hm : m < tot) {u : Int} (hu : u = C m) : Fil (w.setCell ⟨g, m, none⟩ (.int .u8 u)) g tot C (m + 1) := by
  obtain ⟨xs, ho, hl, hx⟩ := h
  subst hu
  refine ⟨_, (ho.stored m (.int .u8 (C m))).1, by rw [List.length_set]; exact hl, fun k hk => ?_⟩
  by_cases e : k = m
  · subst e
    rw [List.getElem?_set_self (by omega)]
  · rw [List.getElem?_set_ne (by omega)]
    exact hx k (by omega)
theorem Fil.more {w w' : World} {g tot m : Nat} {C : Nat → Int} (h : Fil w g tot C m) (hb : w'.heap[g]? = w.heap[g]?) : Fil w' g tot C m := by
  obtain ⟨xs, ho, hl, hx⟩ := h
  refine ⟨xs, ⟨ho.1, ?_⟩, hl, hx⟩
  rcases ho.2 with h' | ⟨g', cap', cur, h', r1, hg, r2⟩
  · exact .inl h'
  · have e := h'
    simp only [Value.slice.injEq, Option.some.injEq, Addr.mk.injEq, and_true, true_and] at e
    obtain ⟨rfl, rfl⟩ := e
    exact .inr ⟨g, tot, cur, h', r1, by rw [hb]; exact hg, r2⟩

/-- make([]byte, n). -/
theorem fil_make (n : Nat) (C : Nat → Int) (hn : n ≤ 2000000) (w : World) :
    ∃ W, (Instr.makeSlice 22 (.int .i64 (n : Int)) (.int .i64 (n : Int))).run Try.prog w = .ok (.slice (some ⟨w.heap.size, 0, none⟩) n n) W ∧ Fil W w.heap.size n C 0 ∧ Below w.heap.size w W := by
  obtain ⟨i0, hi, hz0, hz1, hz2⟩ := info_parts Try.info5
  obtain ⟨W, hmk, hown, hgr⟩ := run_make_full (P := Try.prog) w w.heap.size 22 5 i0 (.int .u8 0) 1 Try.underlying22 hi hz0 hz1 .i64 .i64 n (by rw [hz2]; omega) (by unfold maxLen; omega) (Nat.le_refl _)
  exact ⟨W, hmk, ⟨_, hown, by rw [hown.1, Nat.mul_one], fun k hk => by omega⟩, (Below.refl _ _).grown hgr (Nat.le_refl _) (fun k hk => by cases hk)⟩

/-- WHAT A WALK IS TOLD OF A SLICE OF BYTES: where it has an element, its cells, the numbers B. -/
def Row8 (w : World) (a : Option Addr) (len : Nat) (B : Nat → Int) : Prop :=
  (∀ k, k < len → 0 ≤ B k ∧ B k < 256) ∧ (0 < len → ∃ b off, a = some ⟨b, off, none⟩ ∧ b < w.heap.size ∧ ∀ k, k < len → w.cell? ⟨b, off + k, none⟩ = some (.int .u8 (B k)))

theorem Row8.below {w w' : World} {a : Option Addr} {len : Nat} {B : Nat → Int} (h : Row8 w a len B) (hb : Below w.heap.size w w') : Row8 w' a len B := by
  refine ⟨h.1, fun hl => ?_⟩
  obtain ⟨b, off, ha, hlt, hc⟩ := h.2 hl
  exact ⟨b, off, ha, Nat.lt_of_lt_of_le hlt hb.size, fun k hk => by rw [hb.cell (by exact hlt)]; exact hc k hk⟩

end Go.Proofs.Qxb6602753a
