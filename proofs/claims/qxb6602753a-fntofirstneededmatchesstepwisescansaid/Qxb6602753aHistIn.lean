/-
  WHAT THE WALKS OVER A HISTORY ARE TOLD OF THE ARGUMENTS (rest []byte, chunks [][]byte): pieces 0 (rest), 1 .. m (the chunks).
-/
import Derived.Test.Qxb6602753aFil
import Derived.Deep.Matrix
import Derived.OpenShut
namespace Go.Proofs.Qxb6602753a
open Go.RowKit Go.ChangeShapes Go.WideShapes Go.ChangeAt Go.Deep

structure HIn (w : World) (a1 : Option Addr) (m : Nat) (A : Nat → Option Addr) (L C : Nat → Nat) (B : Nat → Nat → Int) : Prop where
  row : ∀ j, j ≤ m → Row8 w (A j) (L j) (B j)
  cap : ∀ j, j ≤ m → L j ≤ C j ∧ C j ≤ 9223372036854775807
  mlt : m ≤ 9223372036854775807
  top : 0 < m → ∃ b off, a1 = some ⟨b, off, none⟩ ∧ b < w.heap.size ∧ ∀ j, j < m → w.cell? ⟨b, off + j, none⟩ = some (.slice (A (j + 1)) (L (j + 1)) (C (j + 1)))

theorem HIn.below {w w' : World} {a1 : Option Addr} {m : Nat} {A : Nat → Option Addr} {L C : Nat → Nat} {B : Nat → Nat → Int} (h : HIn w a1 m A L C B) (hb : Below w.heap.size w w') : HIn w' a1 m A L C B :=
  ⟨fun j hj => (h.row j hj).below hb, h.cap, h.mlt, fun hm => by
    obtain ⟨b, off, ha, hlt, hc⟩ := h.top hm
    exact ⟨b, off, ha, Nat.lt_of_lt_of_le hlt hb.size, fun j hj => by rw [hb.cell (by exact hlt)]; exact hc j hj⟩⟩

theorem row8_of {w : World} {x : Addr} {len cap : Nat} {z : List Int} (hl : len ≤ cap) (hz : z.length = cap) (hcell : ∀ i, i < cap → w.cell? (x.add i) = some (.int .u8 (z.getD i 0))) (hwz : ∀ n ∈ z, (Lit.int .u8 n).wf = true) :
    Row8 w (some x) len (fun k => z.getD k 0) := by
  refine ⟨fun k hk => ?_, fun hpos => ?_⟩
  · have hmem : z.getD k 0 ∈ z := by rw [List.getD_eq_getElem?_getD, List.getElem?_eq_getElem (by omega)]; exact List.getElem_mem (by omega)
    have := bounds_u8 (hwz _ hmem)
    show 0 ≤ z.getD k 0 ∧ z.getD k 0 < 256
    omega
  · obtain ⟨b, off, spot⟩ := x
    have hspot : spot = none := by simpa [Addr.add] using World.cell?_spot (hcell 0 (by omega))
    subst hspot
    exact ⟨b, off, rfl, cell_lt (hcell 0 (by omega)), fun k hk => by rw [← add_plain]; exact hcell k (by omega)⟩

theorem row8_zero {w : World} {a : Option Addr} {B : Nat → Int} : Row8 w a 0 B := ⟨fun k hk => by omega, fun h => by omega⟩

/-- The two arguments, opened. -/
theorem hin_of {H : Type} {enc : TypeId × Value → H} {W : World} {v0 v1 : Value} {d0 d1 : DataW H} {p0 p1 : List MemPlace} {base : Nat}
    (k0 : Value.okWide Try.prog W .any base 22 v0) (k1 : Value.okWide Try.prog W .any base 31 v1)
    (h0 : DataW.Trod enc Try.prog W 0 (fun _ => true) true 22 v0 d0 p0) (h1 : DataW.Trod enc Try.prog W 0 (fun _ => true) true 31 v1 d1 p1) :
    ∃ (a1 : Option Addr) (m c1 : Nat) (A : Nat → Option Addr) (L C : Nat → Nat) (B : Nat → Nat → Int), v0 = .slice (A 0) (L 0) (C 0) ∧ v1 = .slice a1 m c1 ∧ HIn W a1 m A L C B := by
  obtain ⟨a0, l0, c0, rfl⟩ := okWide_slice Try.underlying22 k0
  obtain ⟨a1, m, c1, rfl⟩ := okWide_slice Try.underlying31 k1
  obtain ⟨B0, hl0, hc0, hB0⟩ : ∃ B0 : Nat → Int, l0 ≤ c0 ∧ c0 ≤ 9223372036854775807 ∧ Row8 W a0 l0 B0 := by
    obtain ⟨fuel, hf⟩ := h0
    rcases open_ints Try.underlying22 Try.underlying5 Try.cells5 hf with ⟨hcs, _⟩ | ⟨x, l, c, zs, hcs, _, hl, hm, hz, _, hcell, hwz⟩
    · simp [Value.cells] at hcs
      obtain ⟨rfl, rfl, rfl⟩ := hcs
      exact ⟨fun _ => 0, Nat.le_refl _, by omega, row8_zero⟩
    · simp [Value.cells] at hcs
      obtain ⟨rfl, rfl, rfl⟩ := hcs
      simp only [if_true] at hz
      exact ⟨_, hl, by unfold maxLen at hm; omega, row8_of hl hz (fun i hi => hcell i (by omega)) hwz⟩
  obtain ⟨fuel, hf⟩ := h1
  rcases open_int_rows Try.underlying31 Try.underlying22 Try.underlying5 (by kernel_rfl) Try.cells5 hf with ⟨hcs, _⟩ | ⟨x, len, cap, A, L, C, Z, hcs, _, hl, hm, _, hrows⟩
  · simp [Value.cells] at hcs
    obtain ⟨rfl, rfl, rfl⟩ := hcs
    refine ⟨none, 0, 0, fun _ => a0, fun _ => l0, fun _ => c0, fun _ => B0, rfl, rfl, fun j _ => hB0, fun j _ => ⟨hl0, hc0⟩, by omega, fun h => by omega⟩
  · simp [Value.cells] at hcs
    obtain ⟨rfl, rfl, rfl⟩ := hcs
    refine ⟨some x, m, c1, fun j => match j with | 0 => a0 | j + 1 => A j, fun j => match j with | 0 => l0 | j + 1 => L j, fun j => match j with | 0 => c0 | j + 1 => C j, fun j => match j with | 0 => B0 | j + 1 => fun k => (Z j).getD k 0, rfl, rfl, fun j hj => ?_, fun j hj => ?_, by unfold maxLen at hm; omega, fun hpos => ?_⟩
    · match j with
      | 0 => exact hB0
      | j + 1 =>
        obtain ⟨_, r1, r2, r3, r4, r5, r6⟩ := hrows j (by omega)
        show Row8 W (A j) (L j) (fun k => (Z j).getD k 0)
        cases hA : A j with
        | none => rw [show L j = 0 by have := r5 hA; omega]; exact row8_zero
        | some a' => exact row8_of r1 r3 (r6 a' hA).2 r4
    · match j with
      | 0 => exact ⟨hl0, hc0⟩
      | j + 1 =>
        obtain ⟨_, r1, r2, _⟩ := hrows j (by omega)
        exact ⟨r1, by unfold maxLen at r2; exact r2⟩
    · obtain ⟨b, off, spot⟩ := x
      have hspot : spot = none := by simpa [Addr.add] using World.cell?_spot (hrows 0 (by omega)).1
      subst hspot
      exact ⟨b, off, rfl, cell_lt (hrows 0 (by omega)).1, fun j hj => by rw [← add_plain]; exact (hrows j (by omega)).1⟩
end Go.Proofs.Qxb6602753a
