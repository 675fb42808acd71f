/-
  THE LAW's ROW OF PLACES, AND A CURSOR BESIDE WRITES TO IT.
-/
import Derived.Test.Qxb6602753aAfter
import Derived.Test.Qxb6602753aToFirst
namespace Go.Proofs.Qxb6602753a
open Go.RowKit Go.ChangeShapes Go.WideShapes Go.ChangeAt
open Uv

theorem RowN.back {w w' : World} {N M : Nat} {a : Option Addr} {len : Nat} {B : Nat → Int} (h : RowN w' N a len B) (hb : Below M w w') (hNM : N ≤ M) : RowN w N a len B := by
  refine ⟨h.1, fun hl => ?_⟩
  obtain ⟨b, off, ha, hlt, hc⟩ := h.2 hl
  exact ⟨b, off, ha, hlt, fun k hk => by rw [← hb.cell (p := ⟨b, off + k, none⟩) (by show b < M; omega)]; exact hc k hk⟩

/-- A place's three cells tell state j. -/
def PlaceOK (w : World) (N m : Nat) (A : Nat → Option Addr) (L : Nat → Nat) (B : Nat → Nat → Int) (prev : Int) (rs : List Rc) (j : Nat) (x y z : Value) : Prop :=
  ∃ a cc, x = .slice a (L (stK m rs j) - stP L m rs j) cc ∧ RowN w N a (L (stK m rs j) - stP L m rs j) (fun i => B (stK m rs j) (stP L m rs j + i)) ∧ a.isNone = stN A m rs j ∧ y = .int .i64 ((m - stK m rs j : Nat) : Int) ∧ z = .int .i64 (stT prev rs j)

/-- Block g, a row of 'tot' places of the call's own, holds good ones at its first n. -/
def FilP (w : World) (g tot : Nat) (PO : Nat → Value → Value → Value → Prop) (n : Nat) : Prop :=
  ∃ xs, w.ownsRow g 51 3 (.slice (some ⟨g, 0, none⟩) tot tot) tot xs ∧ xs.length = tot * 3 ∧ ∀ j, j < n → ∃ x y z, xs[j * 3]? = some x ∧ xs[j * 3 + 1]? = some y ∧ xs[j * 3 + 2]? = some z ∧ PO j x y z

theorem FilP.cell {w : World} {g tot n : Nat} {PO : Nat → Value → Value → Value → Prop} (h : FilP w g tot PO n) (i : Nat) (hi : i < tot * 3) : ∃ v, w.cell? ⟨g, i, none⟩ = some v := by
  obtain ⟨xs, ho, hl, _⟩ := h
  rw [ho.cellAt i hi]
  exact ⟨_, List.getElem?_eq_getElem (by omega)⟩
theorem FilP.froz {w : World} {g tot n : Nat} {PO : Nat → Value → Value → Value → Prop} (h : FilP w g tot PO n) (i : Nat) : w.frozen? ⟨g, i, none⟩ = false := by
  obtain ⟨xs, ho, _⟩ := h
  exact ho.frozenAt i
theorem FilP.get {w : World} {g tot n : Nat} {PO : Nat → Value → Value → Value → Prop} (h : FilP w g tot PO n) (hn : n ≤ tot) (j : Nat) (hj : j < n) :
    ∃ x y z, w.cell? ⟨g, j * 3, none⟩ = some x ∧ w.cell? ⟨g, j * 3 + 1, none⟩ = some y ∧ w.cell? ⟨g, j * 3 + 2, none⟩ = some z ∧ PO j x y z := by
  obtain ⟨xs, ho, hl, hx⟩ := h
  obtain ⟨x, y, z, h1, h2, h3, h4⟩ := hx j hj
  exact ⟨x, y, z, by rw [ho.cellAt _ (by omega)]; exact h1, by rw [ho.cellAt _ (by omega)]; exact h2, by rw [ho.cellAt _ (by omega)]; exact h3, h4⟩
theorem FilP.lt {w : World} {g tot n : Nat} {PO : Nat → Value → Value → Value → Prop} (h : FilP w g tot PO n) : g < w.heap.size := by
  obtain ⟨xs, ho, _⟩ := h
  rcases ho.2 with ⟨h', _⟩ | ⟨g', cap', cur, h', _, hg, _⟩
  · simp at h'
  · simp only [Value.slice.injEq, Option.some.injEq, Addr.mk.injEq, and_true, true_and] at h'
    obtain ⟨rfl, rfl⟩ := h'
    exact (Array.getElem?_eq_some_iff.1 hg).1
theorem FilP.more {w w' : World} {g tot n : Nat} {PO : Nat → Value → Value → Value → Prop} (h : FilP w g tot PO n) (hb : w'.heap[g]? = w.heap[g]?) : FilP w' g tot PO n := by
  obtain ⟨xs, ho, hl, hx⟩ := h
  refine ⟨xs, ⟨ho.1, ?_⟩, hl, hx⟩
  rcases ho.2 with h' | ⟨g', cap', cur, h', r1, hg, r2⟩
  · exact .inl h'
  · have e := h'
    simp only [Value.slice.injEq, Option.some.injEq, Addr.mk.injEq, and_true, true_and] at e
    obtain ⟨rfl, rfl⟩ := e
    exact .inr ⟨g, tot, cur, h', r1, by rw [hb]; exact hg, r2⟩
theorem FilP.step {w : World} {g tot n : Nat} {PO : Nat → Value → Value → Value → Prop} (h : FilP w g tot PO n) (hn : n < tot) {x y z : Value} (hp : PO n x y z) :
    FilP (((w.setCell ⟨g, n * 3, none⟩ x).setCell ⟨g, n * 3 + 1, none⟩ y).setCell ⟨g, n * 3 + 2, none⟩ z) g tot PO (n + 1) := by
  obtain ⟨xs, ho, hl, hx⟩ := h
  have h1 := (ho.stored (n * 3) x).1
  have h2 := (h1.stored (n * 3 + 1) y).1
  have h3 := (h2.stored (n * 3 + 2) z).1
  refine ⟨_, h3, by simp only [List.length_set]; exact hl, fun j hj => ?_⟩
  by_cases e : j = n
  · subst e
    refine ⟨x, y, z, ?_, ?_, ?_, hp⟩
    · rw [List.getElem?_set_ne (by omega), List.getElem?_set_ne (by omega), List.getElem?_set_self (by omega)]
    · rw [List.getElem?_set_ne (by omega), List.getElem?_set_self (by simp only [List.length_set]; omega)]
    · rw [List.getElem?_set_self (by simp only [List.length_set]; omega)]
  · obtain ⟨x', y', z', g1, g2, g3, g4⟩ := hx j (by omega)
    refine ⟨x', y', z', ?_, ?_, ?_, g4⟩
    · rw [List.getElem?_set_ne (by omega), List.getElem?_set_ne (by omega), List.getElem?_set_ne (by omega)]; exact g1
    · rw [List.getElem?_set_ne (by omega), List.getElem?_set_ne (by omega), List.getElem?_set_ne (by omega)]; exact g2
    · rw [List.getElem?_set_ne (by omega), List.getElem?_set_ne (by omega), List.getElem?_set_ne (by omega)]; exact g3

theorem Try.info51 : (Try.prog.info? 51).map (fun i => (i.zero, i.size, i.bytes)) = some (some (.agg #[.slice none 0 0, .int .i64 0, .int .i64 0]), 3, 40) := by kernel_rfl

/-- make([]zzPlace, n). -/
theorem filP_make (n : Nat) (PO : Nat → Value → Value → Value → Prop) (hn : n ≤ 2000000) (w : World) :
    ∃ W, (Instr.makeSlice 49 (.int .i64 (n : Int)) (.int .i64 (n : Int))).run Try.prog w = .ok (.slice (some ⟨w.heap.size, 0, none⟩) n n) W ∧ FilP W w.heap.size n PO 0 ∧ Below w.heap.size w W := by
  obtain ⟨i0, hi, hz0, hz1, hz2⟩ := info_parts Try.info51
  obtain ⟨W, hmk, hown, hgr⟩ := run_make_full (P := Try.prog) w w.heap.size 49 51 i0 _ 3 Try.underlying49 hi hz0 hz1 .i64 .i64 n (by rw [hz2]; omega) (by unfold maxLen; omega) (Nat.le_refl _)
  exact ⟨W, hmk, ⟨_, hown, hown.1, fun k hk => by omega⟩, (Below.refl _ _).grown hgr (Nat.le_refl _) (fun k hk => by cases hk)⟩

/-- A cursor's state stays where another block is written. -/
theorem Sta.beside {w w' : World} {N ga c m g : Nat} {A : Nat → Option Addr} {L : Nat → Nat} {B : Nat → Nat → Int} {prev : Int} {rs : List Rc} {vr va : Value} {t : Nat} (h : Sta w N ga c m A L B prev rs vr va t) (hN : N ≤ g) (hg : g < c) (hga : 0 < m → g < ga)
    (hb : Below g w w') (hs : ∀ b, g < b → w'.heap[b]? = w.heap[b]?) : Sta w' N ga c m A L B prev rs vr va t := by
  refine ⟨⟨fun j hj => (h.mem.row j hj).below hb hN, fun j hj => ?_, h.mem.nc, h.mem.nga, h.mem.len, h.mem.mle⟩, ?_, h.rep.below hb hN⟩
  · rw [World.cell?_of_block (w := w) (hs ga (hga (by omega)))]
    exact h.mem.aft j hj
  · have := h.cur
    unfold Cur at this ⊢
    rw [hs c hg]
    exact this

/-- The place of a state, as the shim tells it. -/
theorem place_ok {w w0 : World} {N M ga c m : Nat} {A : Nat → Option Addr} {L : Nat → Nat} {B : Nat → Nat → Int} {prev : Int} {rs : List Rc} {vr va : Value} {t : Nat} (h : Sta w N ga c m A L B prev rs vr va t) (hb : Below M w0 w) (hN : N ≤ M) :
    ∃ a cc aa ca, vr = .slice a (L (stK m rs t) - stP L m rs t) cc ∧ va = .slice aa (m - stK m rs t) ca ∧
      PlaceOK w0 N m A L B prev rs t (.slice a (L (stK m rs t) - stP L m rs t) cc) (.int .i64 ((m - stK m rs t : Nat) : Int)) (.int .i64 (stT prev rs t)) := by
  obtain ⟨a, cc, h1, _, _, h4, h5⟩ := h.rep.rest
  obtain ⟨aa, ca, h2, _⟩ := h.rep.after
  exact ⟨a, cc, aa, ca, h1, h2, a, cc, rfl, h4.back hb hN, h5, rfl, rfl⟩


/-- A place is written: the cursor's state, the row of places, the frame. -/
theorem put_place {w w0 : World} {N ga c m n tot' : Nat} {A : Nat → Option Addr} {L : Nat → Nat} {B : Nat → Nat → Int} {prev : Int} {rs : List Rc} {vr va x y z : Value} {t : Nat} {PO : Nat → Value → Value → Value → Prop} (hs : Sta w N ga c m A L B prev rs vr va t) (hc : N < c) (hga : 0 < m → N < ga)
    (hf : FilP w N tot' PO n) (hn : n < tot') (hb : Below N w0 w) (hp : PO n x y z) :
    Sta (((w.setCell ⟨N, n * 3, none⟩ x).setCell ⟨N, n * 3 + 1, none⟩ y).setCell ⟨N, n * 3 + 2, none⟩ z) N ga c m A L B prev rs vr va t ∧
    FilP (((w.setCell ⟨N, n * 3, none⟩ x).setCell ⟨N, n * 3 + 1, none⟩ y).setCell ⟨N, n * 3 + 2, none⟩ z) N tot' PO (n + 1) ∧
    Below N w0 (((w.setCell ⟨N, n * 3, none⟩ x).setCell ⟨N, n * 3 + 1, none⟩ y).setCell ⟨N, n * 3 + 2, none⟩ z) := by
  have hB : Below N w (((w.setCell ⟨N, n * 3, none⟩ x).setCell ⟨N, n * 3 + 1, none⟩ y).setCell ⟨N, n * 3 + 2, none⟩ z) :=
    (((Below.refl N w).setCell (p := ⟨N, n * 3, none⟩) (Nat.le_refl N) _).setCell (p := ⟨N, n * 3 + 1, none⟩) (Nat.le_refl N) _).setCell (p := ⟨N, n * 3 + 2, none⟩) (Nat.le_refl N) _
  refine ⟨hs.beside (Nat.le_refl _) hc hga hB (fun b hlt => ?_), hf.step hn hp, hb.trans hB⟩
  rw [Below.heap_setCell _ _ _ _ (by show b ≠ N; omega), Below.heap_setCell _ _ _ _ (by show b ≠ N; omega), Below.heap_setCell _ _ _ _ (by show b ≠ N; omega)]

end Go.Proofs.Qxb6602753a
