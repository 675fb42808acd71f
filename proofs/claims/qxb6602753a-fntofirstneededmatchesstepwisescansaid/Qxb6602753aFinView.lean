/-
  WHAT THE LAST TESTS OF FnToFirstNeededMatchesStepwiseScan LOOK AT, IN ONE PARCEL.
-/
import Derived.Test.Qxb6602753aPlaces
namespace Go.Proofs.Qxb6602753a
open Go.RowKit Go.ChangeShapes Go.WideShapes Go.ChangeAt
open Uv

structure FinV (w : World) (N d m T K : Nat) (A : Nat → Option Addr) (L : Nat → Nat) (xa a2 xaa : Option Addr) (xc xca c2 lr q : Nat) (nl : Bool) (tT : Int) (D : Nat → Int) : Prop where
  cur : Cur w d (.slice xa lr xc) (.slice xaa q xca) tT
  row : RowN w N xa lr D
  nil : xa.isNone = nl
  px : w.cell? ⟨N, T * 3, none⟩ = some (.slice a2 lr c2)
  py : w.cell? ⟨N, T * 3 + 1, none⟩ = some (.int .i64 (q : Int))
  pz : w.cell? ⟨N, T * 3 + 2, none⟩ = some (.int .i64 tT)
  row2 : RowN w N a2 lr D
  nil2 : a2.isNone = nl
  qk : q = m - K
  km : K ≤ m
  lm : lr ≤ 1048576
  aft : ∀ w', Below w.heap.size w w' → Calls Try.prog 27 #[.pointer (some ⟨d, 0, none⟩)] w' fun e w'' => AfterC w' m K A L e w''

theorem fin_view {w wc w5 : World} {N ga d m T n tot' : Nat} {A : Nat → Option Addr} {L : Nat → Nat} {B : Nat → Nat → Int} {prev : Int} {rs : List Rc} {vr va : Value} (hs : Sta w N ga d m A L B prev rs vr va T)
    (hf : FilP wc N tot' (PlaceOK w5 N m A L B prev rs) n) (hn : n ≤ tot') (hT : T < n) (hb : Below wc.heap.size wc w) (hb5 : Below N w5 w) (hN : N < wc.heap.size) :
    ∃ K xa a2 xaa xc xca c2 lr q nl tT D, FinV w N d m T K A L xa a2 xaa xc xca c2 lr q nl tT D := by
  obtain ⟨xa, xc, hvr, _, _, hrow, hnl⟩ := hs.rep.rest
  obtain ⟨xaa, xca, hva, _⟩ := hs.rep.after
  obtain ⟨x, y, z, hx, hy, hz, a2, c2, rfl, hrow2, hnl2, rfl, rfl⟩ := hf.get hn T hT
  have hcur := hs.cur
  rw [hvr, hva] at hcur
  have hlm := hs.mem.len _ hs.rep.km
  have hdlt := (cur_cells hs.cur).2.2.2.2
  refine ⟨stK m rs T, xa, a2, xaa, xc, xca, c2, _, _, stN A m rs T, stT prev rs T, _, hcur, hrow, hnl, ?_, ?_, ?_, hrow2.below hb5 (Nat.le_refl _), hnl2, rfl, hs.rep.km, by omega, fun w' hw' => ?_⟩
  · rw [hb.cell (by exact hN)]; exact hx
  · rw [hb.cell (by exact hN)]; exact hy
  · rw [hb.cell (by exact hN)]; exact hz
  · refine after27 N ga d m (stK m rs T) (stP L m rs T) (stN A m rs T) A L B vr va (stT prev rs T) w' (hs.mem.below (hw'.mono (by omega))) ?_ (hs.rep.below hw' (by have := hs.mem.nc; omega))
    have := hs.cur
    unfold Cur at this ⊢
    rw [hw'.block d hdlt]
    exact this

theorem wrap_small (x : Int) (h0 : 0 ≤ x) (h1 : x ≤ 2000000) : IntKind.i64.wrap x = x := by
  rw [IntKind.wrap_i64]; omega

theorem FinV.drewN {w : World} {N d m T K : Nat} {A : Nat → Option Addr} {L : Nat → Nat} {xa a2 xaa : Option Addr} {xc xca c2 lr q : Nat} {nl : Bool} {tT : Int} {D : Nat → Int} (h : FinV w N d m T K A L xa a2 xaa xc xca c2 lr q nl tT D) (n : Nat) : FinV (w.drewN n) N d m T K A L xa a2 xaa xc xca c2 lr q nl tT D :=
  ⟨h.cur, h.row.below (below_drewN (Below.refl N w) n) (Nat.le_refl _), h.nil, h.px, h.py, h.pz, h.row2.below (below_drewN (Below.refl N w) n) (Nat.le_refl _), h.nil2, h.qk, h.km, h.lm,
    fun w' hw' => h.aft w' ((below_drewN (Below.refl w.heap.size w) n).trans hw')⟩

end Go.Proofs.Qxb6602753a
