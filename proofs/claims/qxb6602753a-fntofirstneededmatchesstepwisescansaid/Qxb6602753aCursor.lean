/-
  A CURSOR IN MEMORY, AND ZZNewCursor (21).
-/
import Derived.Test.Qxb6602753aCloneWalk
import Derived.Test.Qxb6602753aHist
namespace Go.Proofs.Qxb6602753a
open Go.RowKit Go.ChangeShapes Go.WideShapes Go.ChangeAt
open Uv

/-- The cursor's own block c: rest, after, prev. -/
def Cur (w : World) (c : Nat) (vr va : Value) (ts : Int) : Prop := w.heap[c]? = some (.cells #[vr, va, .int .i64 ts] 64 (0, 0))

/-- The memory that a cursor reads: the pieces below N, the row of chunks in block ga, all below the cursor's block c. -/
structure Mem (w : World) (N ga c m : Nat) (A : Nat → Option Addr) (L : Nat → Nat) (B : Nat → Nat → Int) : Prop where
  row : ∀ j, j ≤ m → RowN w N (A j) (L j) (B j)
  aft : ∀ j, j < m → w.cell? ⟨ga, j * 3 + 1, none⟩ = some (.slice (A (j + 1)) (L (j + 1)) (L (j + 1)))
  nc : N ≤ c
  nga : 0 < m → N ≤ ga ∧ ga < c
  len : ∀ j, j ≤ m → L j ≤ 1048576
  mle : m ≤ 65536

theorem Mem.below {w w' : World} {N ga c m : Nat} {A : Nat → Option Addr} {L : Nat → Nat} {B : Nat → Nat → Int} (h : Mem w N ga c m A L B) (hb : Below c w w') : Mem w' N ga c m A L B :=
  ⟨fun j hj => (h.row j hj).below hb h.nc, fun j hj => by rw [hb.cell (by exact (h.nga (by omega)).2)]; exact h.aft j hj, h.nc, h.nga, h.len, h.mle⟩

/-- The two slices in a cursor that stands at place p of piece k; nl: is rest nil? -/
structure Rep (w : World) (N ga m : Nat) (L : Nat → Nat) (B : Nat → Nat → Int) (vr va : Value) (k p : Nat) (nl : Bool) : Prop where
  rest : ∃ a cc, vr = .slice a (L k - p) cc ∧ L k - p ≤ cc ∧ cc ≤ 2000000 ∧ RowN w N a (L k - p) (fun i => B k (p + i)) ∧ a.isNone = nl
  after : ∃ a cc, va = .slice a (m - k) cc ∧ m - k ≤ cc ∧ cc ≤ 2000000 ∧ (0 < m - k → a = some ⟨ga, k * 3, none⟩)
  km : k ≤ m
  pl : p ≤ L k

theorem Rep.below {w w' : World} {N M ga m : Nat} {L : Nat → Nat} {B : Nat → Nat → Int} {vr va : Value} {k p : Nat} {nl : Bool} (h : Rep w N ga m L B vr va k p nl) (hb : Below M w w') (hN : N ≤ M) : Rep w' N ga m L B vr va k p nl := by
  obtain ⟨a, cc, h1, h2, h3, h4, h5⟩ := h.rest
  exact ⟨⟨a, cc, h1, h2, h3, h4.below hb hN, h5⟩, h.after, h.km, h.pl⟩

theorem cur_cells {w : World} {c : Nat} {vr va : Value} {ts : Int} (h : Cur w c vr va ts) :
    w.cell? ⟨c, 0, none⟩ = some vr ∧ w.cell? ⟨c, 1, none⟩ = some va ∧ w.cell? ⟨c, 2, none⟩ = some (.int .i64 ts) ∧ (∀ o, w.frozen? ⟨c, o, none⟩ = false) ∧ c < w.heap.size := by
  have h' : w.heap[c]? = some (.cells [vr, va, .int .i64 ts].toArray 64 (0, 0)) := h
  refine ⟨by rw [cell_of_row h']; rfl, by rw [cell_of_row h']; rfl, by rw [cell_of_row h']; rfl, fun o => ?_, (Array.getElem?_eq_some_iff.1 h).1⟩
  simp [World.frozen?, h']

theorem Try.info62 : (Try.prog.info? 62).map (fun i => (i.zero, i.size, i.bytes)) = some (some (.agg #[.int .i64 0, .slice none 0 0, .int .u64 0]), 3, 40) := by kernel_rfl

theorem nneq31 : ∀ (w : World) (a : Option Addr) (n c n' c' : Nat), (binOp .neq 31 (.slice a n c) (.slice none n' c')).run Try.prog w = .ok (.bool (!a.isNone)) w := fun w a n c n' c' => run_neq_slice_nil_any w _ _ a n c n' c' Try.underlying31

/-- What ZZNewCursor leaves: a cursor at the history's head, in new memory from M on. -/
def NewCur (w : World) (m : Nat) (A : Nat → Option Addr) (L : Nat → Nat) (B : Nat → Nat → Int) (prev : Int) (e : Ending) (w' : World) : Prop :=
  ∃ ga c vr va, e = .returned (.pointer (some ⟨c, 0, none⟩)) ∧ Cur w' c vr va prev ∧ Mem w' w.heap.size ga c m A L B ∧ Rep w' w.heap.size ga m L B vr va 0 0 (A 0).isNone ∧ Below w.heap.size w w'

theorem cur21_nil (c1 : Nat) (A : Nat → Option Addr) (L : Nat → Nat) (B : Nat → Nat → Int) (prev : Int) (w : World) (hin : HIn w none 0 A L L B) (hL : L 0 ≤ 1048576) :
    Calls Try.prog 21 #[.slice (A 0) (L 0) (L 0), .slice none 0 c1, .int .i64 prev] w fun e w' => NewCur w 0 A L B prev e w' := by
  have hnil := nneq31
  have HI : Hid (HIn w none 0 A L L B) := hin
  clear hin
  go_enter Try.func21, Try.ntmps21
  go_wp2
  go_ret
  refine ⟨0, w.heap.size, _, _, rfl, heap_alloc_new w _, ?_, ?_, (Below.refl _ _).alloc (Nat.le_refl _) _⟩
  · refine ⟨fun j hj => ?_, (fun j hj => by omega), Nat.le_refl _, (fun h => by omega), (fun j hj => ?_), by omega⟩
    · exact RowN.below (rowN_of (HI.out.row j hj)) ((Below.refl _ _).alloc (Nat.le_refl _) _) (Nat.le_refl _)
    · obtain rfl : j = 0 := by omega
      exact hL
  · refine ⟨⟨A 0, L 0, rfl, by omega, by omega, ?_, rfl⟩, ⟨none, 0, rfl, by omega, by omega, fun h => by omega⟩, Nat.le_refl _, Nat.zero_le _⟩
    have := RowN.below (rowN_of (HI.out.row 0 (Nat.zero_le _))) ((Below.refl w.heap.size w).alloc (Nat.le_refl _) (.cells #[.slice (A 0) (L 0) (L 0), .slice none 0 0, .int .i64 prev] 64)) (Nat.le_refl _)
    simpa using this

/-- Block g, a row of m chunks of the call's own: the first k of them bear V in their field b. -/
def FilC (w : World) (g m : Nat) (V : Nat → Value) (k : Nat) : Prop :=
  ∃ xs, w.ownsRow g 62 3 (.slice (some ⟨g, 0, none⟩) m m) m xs ∧ xs.length = m * 3 ∧ ∀ j, j < k → xs[j * 3 + 1]? = some (V j)
theorem FilC.cell {w : World} {g m k : Nat} {V : Nat → Value} (h : FilC w g m V k) (i : Nat) (hi : i < m * 3) : ∃ v, w.cell? ⟨g, i, none⟩ = some v := by
  obtain ⟨xs, ho, hl, _⟩ := h
  rw [ho.cellAt i hi]
  exact ⟨_, List.getElem?_eq_getElem (by omega)⟩
theorem FilC.froz {w : World} {g m k : Nat} {V : Nat → Value} (h : FilC w g m V k) (i : Nat) : w.frozen? ⟨g, i, none⟩ = false := by
  obtain ⟨xs, ho, _⟩ := h
  exact ho.frozenAt i
theorem FilC.get {w : World} {g m k : Nat} {V : Nat → Value} (h : FilC w g m V k) (hk : k ≤ m) (j : Nat) (hj : j < k) : w.cell? ⟨g, j * 3 + 1, none⟩ = some (V j) := by
  obtain ⟨xs, ho, hl, hx⟩ := h
  rw [ho.cellAt _ (by omega)]
  exact hx j hj
theorem FilC.lt {w : World} {g m k : Nat} {V : Nat → Value} (h : FilC w g m V k) : g < w.heap.size := by
  obtain ⟨xs, ho, _⟩ := h
  rcases ho.2 with ⟨h', _⟩ | ⟨g', cap', cur, h', _, hg, _⟩
  · simp at h'
  · simp only [Value.slice.injEq, Option.some.injEq, Addr.mk.injEq, and_true, true_and] at h'
    obtain ⟨rfl, rfl⟩ := h'
    exact (Array.getElem?_eq_some_iff.1 hg).1
theorem FilC.step {w : World} {g m k : Nat} {V : Nat → Value} (h : FilC w g m V k) (hk : k < m) : FilC (w.setCell ⟨g, k * 3 + 1, none⟩ (V k)) g m V (k + 1) := by
  obtain ⟨xs, ho, hl, hx⟩ := h
  refine ⟨_, (ho.stored (k * 3 + 1) (V k)).1, by rw [List.length_set]; exact hl, fun j hj => ?_⟩
  by_cases e : j = k
  · subst e
    rw [List.getElem?_set_self (by omega)]
  · rw [List.getElem?_set_ne (by omega)]
    exact hx j (by omega)

/-- make([]versionChunk, n). -/
theorem filC_make (n : Nat) (V : Nat → Value) (hn : n ≤ 2000000) (w : World) :
    ∃ W, (Instr.makeSlice 60 (.int .i64 (n : Int)) (.int .i64 (n : Int))).run Try.prog w = .ok (.slice (some ⟨w.heap.size, 0, none⟩) n n) W ∧ FilC W w.heap.size n V 0 ∧ Below w.heap.size w W := by
  obtain ⟨i0, hi, hz0, hz1, hz2⟩ := info_parts Try.info62
  obtain ⟨W, hmk, hown, hgr⟩ := run_make_full (P := Try.prog) w w.heap.size 60 62 i0 _ 3 Try.underlying60 hi hz0 hz1 .i64 .i64 n (by rw [hz2]; omega) (by unfold maxLen; omega) (Nat.le_refl _)
  exact ⟨W, hmk, ⟨_, hown, hown.1, fun k hk => by omega⟩, (Below.refl _ _).grown hgr (Nat.le_refl _) (fun k hk => by cases hk)⟩

set_option maxHeartbeats 800000 in
theorem cur21_some (x : Addr) (m c1 : Nat) (A : Nat → Option Addr) (L : Nat → Nat) (B : Nat → Nat → Int) (prev : Int) (w : World) (hin : HIn w (some x) m A L L B) (hm : m ≤ 65536) (hL : ∀ j, j ≤ m → L j ≤ 1048576) :
    Calls Try.prog 21 #[.slice (A 0) (L 0) (L 0), .slice (some x) m c1, .int .i64 prev] w fun e w' => NewCur w m A L B prev e w' := by
  have hnil := nneq31
  have HI : Hid (HIn w (some x) m A L L B) := hin
  have HL : Hid (∀ j, j ≤ m → L j ≤ 1048576) := hL
  obtain ⟨W, hmk, hfil, hbW⟩ := filC_make m (fun j => .slice (A (j + 1)) (L (j + 1)) (L (j + 1))) (by omega) w
  have HF : Hid (FilC W w.heap.size m (fun j => .slice (A (j + 1)) (L (j + 1)) (L (j + 1))) 0) := hfil
  have HB : Hid (Below w.heap.size w W) := hbW
  clear hin hL hfil hbW
  go_enter Try.func21, Try.ntmps21
  go_wp2
  go_loopw [8] (fun vk wr => ∃ k : Nat, k ≤ m ∧ vk = .int .i64 (k : Int) ∧ FilC wr w.heap.size m (fun j => .slice (A (j + 1)) (L (j + 1)) (L (j + 1))) k ∧ Below w.heap.size w wr) (fun vk _ => m - (intOf vk).toNat)
  case atStart => exact ⟨0, Nat.zero_le _, rfl, HF.out, HB.out⟩
  case round =>
    obtain ⟨k, hk, rfl, hF, hB⟩ := hrel
    have HF1 : Hid (FilC wr w.heap.size m (fun j => .slice (A (j + 1)) (L (j + 1)) (L (j + 1))) k) := hF
    have HB2 : Hid (Below w.heap.size w wr) := hB
    clear hF hB
    by_cases hlt : k < m
    · obtain ⟨b, off, ha, hblt, hcP⟩ := HI.out.top (by omega)
      cases ha
      have hck : wr.cell? ⟨b, off + k, none⟩ = some (.slice (A (k + 1)) (L (k + 1)) (L (k + 1))) := by
        rw [HB2.out.cell (by exact hblt)]
        exact hcP k hlt
      obtain ⟨v, hcv⟩ := HF1.out.cell (k * 3 + 1) (by omega)
      have hfr := HF1.out.froz (k * 3 + 1)
      clear hcP
      go_wp2
      go_roundw
      case rel => exact ⟨k + 1, by omega, by go_num, HF1.out.step hlt, HB2.out.setCell (Nat.le_refl _) _⟩
      case measure => simp [intOf]; omega
    · obtain rfl : m = k := by omega
      go_wp2
      go_ret
      have hg := HF1.out.lt
      have hb3 : Below wr.heap.size wr (wr.alloc (.cells #[.slice (A 0) (L 0) (L 0), .slice (some ⟨w.heap.size, 0, none⟩) m m, .int .i64 prev] 64)) := (Below.refl _ _).alloc (Nat.le_refl _) _
      refine ⟨w.heap.size, wr.heap.size, _, _, rfl, heap_alloc_new wr _, ?_, ?_, HB2.out.alloc HB2.out.size _⟩
      · refine ⟨fun j hj => ?_, (fun j hj => ?_), by omega, (fun h => ⟨Nat.le_refl _, hg⟩), HL.out, hm⟩
        · exact (RowN.below (rowN_of (HI.out.row j hj)) HB2.out (Nat.le_refl _)).below hb3 (by omega)
        · rw [hb3.cell (by exact hg)]
          exact HF1.out.get (Nat.le_refl _) j hj
      · have h0 := HL.out 0 (Nat.zero_le _)
        refine ⟨⟨A 0, L 0, rfl, by omega, by omega, ?_, rfl⟩, ⟨_, m, rfl, by omega, by omega, fun h => by rw [Nat.zero_mul]⟩, Nat.zero_le _, Nat.zero_le _⟩
        have := (RowN.below (rowN_of (HI.out.row 0 (Nat.zero_le _))) HB2.out (Nat.le_refl _)).below hb3 (by omega)
        simpa using this

theorem cur21 (a1 : Option Addr) (m c1 : Nat) (A : Nat → Option Addr) (L : Nat → Nat) (B : Nat → Nat → Int) (prev : Int) (w : World) (hin : HIn w a1 m A L L B) (hm : m ≤ 65536) (hL : ∀ j, j ≤ m → L j ≤ 1048576) :
    Calls Try.prog 21 #[.slice (A 0) (L 0) (L 0), .slice a1 m c1, .int .i64 prev] w fun e w' => NewCur w m A L B prev e w' := by
  cases a1 with
  | none =>
    obtain rfl : m = 0 := by
      by_cases h : m = 0
      · exact h
      · obtain ⟨b, off, h1, _⟩ := hin.top (by omega)
        cases h1
    exact cur21_nil c1 A L B prev w hin (hL 0 (Nat.le_refl _))
  | some x => exact cur21_some x m c1 A L B prev w hin hm hL
end Go.Proofs.Qxb6602753a
