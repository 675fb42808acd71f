/-
  THE CONTRACTS OF cloneBytes (19) AND cloneChunks (20).
-/
import Derived.Test.Qxb6602753aHistIn
import Derived.WalkSmall
namespace Go.Proofs.Qxb6602753a
open Go.RowKit Go.ChangeShapes Go.WideShapes Go.ChangeAt

/-- A row of bytes whose block lies below N. -/
def RowN (w : World) (N : Nat) (a : Option Addr) (len : Nat) (B : Nat → Int) : Prop :=
  (∀ k, k < len → 0 ≤ B k ∧ B k < 256) ∧ (0 < len → ∃ b off, a = some ⟨b, off, none⟩ ∧ b < N ∧ ∀ k, k < len → w.cell? ⟨b, off + k, none⟩ = some (.int .u8 (B k)))
theorem rowN_of {w : World} {a : Option Addr} {len : Nat} {B : Nat → Int} (h : Row8 w a len B) : RowN w w.heap.size a len B := h
theorem RowN.below {w w' : World} {N M : Nat} {a : Option Addr} {len : Nat} {B : Nat → Int} (h : RowN w N a len B) (hb : Below M w w') (hNM : N ≤ M) : RowN w' N a len B := by
  refine ⟨h.1, fun hl => ?_⟩
  obtain ⟨b, off, ha, hlt, hc⟩ := h.2 hl
  exact ⟨b, off, ha, hlt, fun k hk => by rw [hb.cell (by show b < M; omega)]; exact hc k hk⟩
theorem RowN.mono {w : World} {N N' : Nat} {a : Option Addr} {len : Nat} {B : Nat → Int} (h : RowN w N a len B) (hN : N ≤ N') : RowN w N' a len B := by
  refine ⟨h.1, fun hl => ?_⟩
  obtain ⟨b, off, ha, hlt, hc⟩ := h.2 hl
  exact ⟨b, off, ha, by omega, hc⟩

/-- What cloneBytes leaves. -/
def CloneB (w : World) (a : Option Addr) (len : Nat) (B : Nat → Int) (e : Ending) (w' : World) : Prop :=
  ∃ a', e = .returned (.slice a' len len) ∧ a'.isNone = a.isNone ∧ RowN w' w'.heap.size a' len B ∧ (∀ x, a' = some x → w.heap.size ≤ x.block) ∧ Below w.heap.size w w'

theorem nil22 : ∀ (w : World) (a : Option Addr) (n c n' c' : Nat), (binOp .eql 22 (.slice a n c) (.slice none n' c')).run Try.prog w = .ok (.bool a.isNone) w := fun w a n c n' c' => Lib.run_eql_slice_nil w _ _ a n c n' c' Try.underlying22

set_option maxHeartbeats 800000 in
theorem c19 (a : Option Addr) (len cap : Nat) (B : Nat → Int) (w : World) (hlen : len ≤ 1048576) (hr : Row8 w a len B) :
    Calls Try.prog 19 #[.slice a len cap] w fun e w' => CloneB w a len B e w' := by
  have hnil := nil22
  cases a with
  | none =>
    obtain rfl : len = 0 := by
      by_cases h : len = 0
      · exact h
      · obtain ⟨b, off, h1, _⟩ := hr.2 (by omega)
        cases h1
    clear hr
    go_enter Try.func19, Try.ntmps19
    go_wp2
    go_ret
    exact ⟨none, rfl, rfl, row8_zero, (fun x hx => by cases hx), Below.refl _ _⟩
  | some x =>
    obtain ⟨W, hmk, hfil, hbW⟩ := fil_make len B (by omega) w
    have HF : Hid (Fil W w.heap.size len B 0) := hfil
    have HB : Hid (Below w.heap.size w W) := hbW
    have HR : Hid (Row8 w (some x) len B) := hr
    clear hfil hbW hr
    go_enter Try.func19, Try.ntmps19
    go_wp2
    go_loopw [4] (fun vk wr => ∃ k : Nat, k ≤ len ∧ vk = .int .i64 (k : Int) ∧ Fil wr w.heap.size len B k ∧ Below w.heap.size w wr) (fun vk _ => len - (intOf vk).toNat)
    case atStart => exact ⟨0, Nat.zero_le _, rfl, HF.out, HB.out⟩
    case round =>
      obtain ⟨k, hk, rfl, hF, hB⟩ := hrel
      have HF1 : Hid (Fil wr w.heap.size len B k) := hF
      have HB2 : Hid (Below w.heap.size w wr) := hB
      clear hF hB
      by_cases hlt : k < len
      · obtain ⟨b, off, ha, hblt, hcP⟩ := HR.out.2 (by omega)
        cases ha
        have hck : wr.cell? ⟨b, off + k, none⟩ = some (.int .u8 (B k)) := by
          rw [HB2.out.cell (by exact hblt)]
          exact hcP k hlt
        obtain ⟨v, hcv⟩ := HF1.out.cell k (by omega)
        have hfr := HF1.out.froz k
        clear hcP
        go_wp2
        go_roundw
        case rel => exact ⟨k + 1, by omega, by go_num, HF1.out.step (by omega) rfl, HB2.out.setCell (Nat.le_refl _) _⟩
        case measure => simp [intOf]; omega
      · obtain rfl : len = k := by omega
        go_wp2
        go_ret
        exact ⟨some ⟨w.heap.size, 0, none⟩, rfl, rfl, ⟨HR.out.1, fun _ => ⟨w.heap.size, 0, rfl, HF1.out.lt, fun j hj => by rw [Nat.zero_add]; exact HF1.out.get (Nat.le_refl _) j hj⟩⟩, (fun x hx => by cases hx; exact Nat.le_refl _), HB2.out⟩

/-- Block g, a row of 'tot' cells (type e) of the call's own, holds V at its first m places. -/
def FilV (w : World) (g e tot : Nat) (V : Nat → Value) (m : Nat) : Prop :=
  ∃ xs, w.ownsRow g e 1 (.slice (some ⟨g, 0, none⟩) tot tot) tot xs ∧ xs.length = tot ∧ ∀ k, k < m → xs[k]? = some (V k)

theorem FilV.cell {w : World} {g e tot m : Nat} {V : Nat → Value} (h : FilV w g e tot V m) (k : Nat) (hk : k < tot) : ∃ v, w.cell? ⟨g, k, none⟩ = some v := by
  obtain ⟨xs, ho, hl, _⟩ := h
  rw [ho.cellAt k (by omega)]
  exact ⟨_, List.getElem?_eq_getElem (by omega)⟩
theorem FilV.froz {w : World} {g e tot m : Nat} {V : Nat → Value} (h : FilV w g e tot V m) (k : Nat) : w.frozen? ⟨g, k, none⟩ = false := by
  obtain ⟨xs, ho, _⟩ := h
  exact ho.frozenAt k
theorem FilV.get {w : World} {g e tot m : Nat} {V : Nat → Value} (h : FilV w g e tot V m) (hm : m ≤ tot) (k : Nat) (hk : k < m) : w.cell? ⟨g, k, none⟩ = some (V k) := by
  obtain ⟨xs, ho, hl, hx⟩ := h
  rw [ho.cellAt k (by omega)]
  exact hx k hk
theorem FilV.lt {w : World} {g e tot m : Nat} {V : Nat → Value} (h : FilV w g e tot V m) : g < w.heap.size := by
  obtain ⟨xs, ho, _⟩ := h
  rcases ho.2 with ⟨h', _⟩ | ⟨g', cap', cur, h', _, hg, _⟩
  · simp at h'
  · simp only [Value.slice.injEq, Option.some.injEq, Addr.mk.injEq, and_true, true_and] at h'
    obtain ⟨rfl, rfl⟩ := h'
    exact (Array.getElem?_eq_some_iff.1 hg).1
theorem FilV.step {w : World} {g e tot m : Nat} {V W : Nat → Value} (h : FilV w g e tot V m) (hm : m < tot) {u : Value} (hu : u = W m) (hVW : ∀ k, k < m → W k = V k) : FilV (w.setCell ⟨g, m, none⟩ u) g e tot W (m + 1) := by
  obtain ⟨xs, ho, hl, hx⟩ := h
  subst hu
  refine ⟨_, (ho.stored m (W m)).1, by rw [List.length_set]; exact hl, fun k hk => ?_⟩
  by_cases e : k = m
  · subst e
    rw [List.getElem?_set_self (by omega)]
  · rw [List.getElem?_set_ne (by omega), hVW k (by omega)]
    exact hx k (by omega)
theorem FilV.more {w w' : World} {g e tot m : Nat} {V : Nat → Value} (h : FilV w g e tot V m) (hb : w'.heap[g]? = w.heap[g]?) : FilV w' g e tot V m := by
  obtain ⟨xs, ho, hl, hx⟩ := h
  refine ⟨xs, ⟨ho.1, ?_⟩, hl, hx⟩
  rcases ho.2 with h' | ⟨g', cap', cur, h', r1, hg, r2⟩
  · exact .inl h'
  · have e := h'
    simp only [Value.slice.injEq, Option.some.injEq, Addr.mk.injEq, and_true, true_and] at e
    obtain ⟨rfl, rfl⟩ := e
    exact .inr ⟨g, tot, cur, h', r1, by rw [hb]; exact hg, r2⟩

theorem Try.info22 : (Try.prog.info? 22).map (fun i => (i.zero, i.size, i.bytes)) = some (some (.slice none 0 0), 1, 24) := by kernel_rfl

/-- make([][]byte, n). -/
theorem filV_make (n : Nat) (V : Nat → Value) (hn : n ≤ 2000000) (w : World) :
    ∃ W, (Instr.makeSlice 31 (.int .i64 (n : Int)) (.int .i64 (n : Int))).run Try.prog w = .ok (.slice (some ⟨w.heap.size, 0, none⟩) n n) W ∧ FilV W w.heap.size 22 n V 0 ∧ Below w.heap.size w W := by
  obtain ⟨i0, hi, hz0, hz1, hz2⟩ := info_parts Try.info22
  obtain ⟨W, hmk, hown, hgr⟩ := run_make_full (P := Try.prog) w w.heap.size 31 22 i0 (.slice none 0 0) 1 Try.underlying31 hi hz0 hz1 .i64 .i64 n (by rw [hz2]; omega) (by unfold maxLen; omega) (Nat.le_refl _)
  exact ⟨W, hmk, ⟨_, hown, by rw [hown.1, Nat.mul_one], fun k hk => by omega⟩, (Below.refl _ _).grown hgr (Nat.le_refl _) (fun k hk => by cases hk)⟩

/-- The clones of the chunks so far: k of them; A' their addresses. -/
structure ClC (w : World) (m : Nat) (A A' : Nat → Option Addr) (L : Nat → Nat) (B : Nat → Nat → Int) (k : Nat) (wr : World) : Prop where
  fil : FilV wr w.heap.size 22 m (fun j => .slice (A' (j + 1)) (L (j + 1)) (L (j + 1))) k
  row : ∀ j, j < k → RowN wr wr.heap.size (A' (j + 1)) (L (j + 1)) (B (j + 1)) ∧ (A' (j + 1)).isNone = (A (j + 1)).isNone ∧ ∀ x, A' (j + 1) = some x → w.heap.size < x.block
  bel : Below w.heap.size w wr

theorem ClC.step {w wr w1 : World} {m : Nat} {A A' : Nat → Option Addr} {L : Nat → Nat} {B : Nat → Nat → Int} {k : Nat} {a' : Option Addr} (h : ClC w m A A' L B k wr) (hk : k < m)
    (hn : a'.isNone = (A (k + 1)).isNone) (hr : RowN w1 w1.heap.size a' (L (k + 1)) (B (k + 1))) (hx : ∀ x, a' = some x → wr.heap.size ≤ x.block) (hb : Below wr.heap.size wr w1) :
    ClC w m A (fun i => if i = k + 1 then a' else A' i) L B (k + 1) (w1.setCell ⟨w.heap.size, k, none⟩ (.slice a' (L (k + 1)) (L (k + 1)))) := by
  have hg := h.fil.lt
  have keep : ∀ (a : Option Addr) (len : Nat) (C : Nat → Int) (u : Value), RowN w1 w1.heap.size a len C → (∀ x, a = some x → w.heap.size < x.block) → RowN (w1.setCell ⟨w.heap.size, k, none⟩ u) (w1.setCell ⟨w.heap.size, k, none⟩ u).heap.size a len C := by
    intro a len C u hrow hlow
    refine ⟨hrow.1, fun hl => ?_⟩
    obtain ⟨b, off, ha, hlt, hc⟩ := hrow.2 hl
    have hbl : w.heap.size < b := hlow _ ha
    refine ⟨b, off, ha, by simpa [World.setCell] using hlt, fun i hi => ?_⟩
    rw [World.cell?_of_block (w := w1) (Below.heap_setCell w1 _ _ b (by show b ≠ w.heap.size; omega))]
    exact hc i hi
  refine ⟨?_, fun j hj => ?_, ?_⟩
  · refine (h.fil.more (hb.block _ hg)).step hk (by simp) (fun i hi => ?_)
    rw [if_neg (by omega)]
  · by_cases e : j = k
    · subst e
      simp only [if_true]
      exact ⟨keep _ _ _ _ hr (fun x hx' => by have := hx x hx'; omega), hn, fun x hx' => by have := hx x hx'; omega⟩
    · have hj' : j < k := by omega
      rw [if_neg (by omega)]
      obtain ⟨h1, h2, h3⟩ := h.row j hj'
      exact ⟨keep _ _ _ _ ((h1.below hb (Nat.le_refl _)).mono hb.size) h3, h2, h3⟩
  · exact (h.bel.trans (hb.mono (by have := h.bel.size; omega))).setCell (Nat.le_refl _) _

/-- What cloneChunks leaves. -/
def CloneC (w : World) (a1 : Option Addr) (m : Nat) (A : Nat → Option Addr) (L : Nat → Nat) (B : Nat → Nat → Int) (e : Ending) (w' : World) : Prop :=
  ∃ (a1' : Option Addr) (A' : Nat → Option Addr), e = .returned (.slice a1' m m) ∧ a1'.isNone = a1.isNone ∧ (∀ j, j < m → RowN w' w'.heap.size (A' (j + 1)) (L (j + 1)) (B (j + 1)) ∧ (A' (j + 1)).isNone = (A (j + 1)).isNone) ∧
    (0 < m → ∃ b, a1' = some ⟨b, 0, none⟩ ∧ b < w'.heap.size ∧ ∀ j, j < m → w'.cell? ⟨b, j, none⟩ = some (.slice (A' (j + 1)) (L (j + 1)) (L (j + 1)))) ∧ Below w.heap.size w w'

theorem nil31 : ∀ (w : World) (a : Option Addr) (n c n' c' : Nat), (binOp .eql 31 (.slice a n c) (.slice none n' c')).run Try.prog w = .ok (.bool a.isNone) w := fun w a n c n' c' => Lib.run_eql_slice_nil w _ _ a n c n' c' Try.underlying31

set_option maxHeartbeats 800000 in
theorem c20 (a1 : Option Addr) (m c1 : Nat) (A : Nat → Option Addr) (L C : Nat → Nat) (B : Nat → Nat → Int) (w : World) (hin : HIn w a1 m A L C B) (hm : m ≤ 65536) (hL : ∀ j, j ≤ m → L j ≤ 1048576) :
    Calls Try.prog 20 #[.slice a1 m c1] w fun e w' => CloneC w a1 m A L B e w' := by
  have hnil := nil31
  cases a1 with
  | none =>
    obtain rfl : m = 0 := by
      by_cases h : m = 0
      · exact h
      · obtain ⟨b, off, h1, _⟩ := hin.top (by omega)
        cases h1
    clear hin
    go_enter Try.func20, Try.ntmps20
    go_wp2
    go_ret
    exact ⟨none, A, rfl, rfl, (fun j hj => by omega), (fun h => by omega), Below.refl _ _⟩
  | some x =>
    obtain ⟨W, hmk, hfil, hbW⟩ := filV_make m (fun j => .slice (A (j + 1)) (L (j + 1)) (L (j + 1))) (by omega) w
    have HF : Hid (FilV W w.heap.size 22 m (fun j => .slice (A (j + 1)) (L (j + 1)) (L (j + 1))) 0) := hfil
    have HB : Hid (Below w.heap.size w W) := hbW
    have HI : Hid (HIn w (some x) m A L C B) := hin
    have HL : Hid (∀ j, j ≤ m → L j ≤ 1048576) := hL
    clear hfil hbW hin hL
    go_enter Try.func20, Try.ntmps20
    go_wp2
    go_loopw [4] (fun vk wr => ∃ (k : Nat) (A' : Nat → Option Addr), k ≤ m ∧ vk = .int .i64 (k : Int) ∧ ClC w m A A' L B k wr) (fun vk _ => m - (intOf vk).toNat)
    case atStart => exact ⟨0, A, Nat.zero_le _, rfl, HF.out, (fun j hj => by omega), HB.out⟩
    case round =>
      obtain ⟨k, A', hk, rfl, hC⟩ := hrel
      have HC : Hid (ClC w m A A' L B k wr) := hC
      clear hC
      by_cases hlt : k < m
      · obtain ⟨b, off, ha, hblt, hcP⟩ := HI.out.top (by omega)
        cases ha
        have hck : wr.cell? ⟨b, off + k, none⟩ = some (.slice (A (k + 1)) (L (k + 1)) (C (k + 1))) := by
          rw [HC.out.bel.cell (by exact hblt)]
          exact hcP k hlt
        clear hcP
        go_wp2_with fail
        refine (c19 _ _ _ (B (k + 1)) _ (HL.out _ (by omega)) ((HI.out.row (k + 1) (by omega)).below HC.out.bel)).mono ?_
        rintro e w1 ⟨a', rfl, hn, hr, hx, hb⟩
        have HN : Hid (ClC w m A (fun i => if i = k + 1 then a' else A' i) L B (k + 1) (w1.setCell ⟨w.heap.size, k, none⟩ (.slice a' (L (k + 1)) (L (k + 1))))) := HC.out.step hlt hn hr hx hb
        have hgl := HC.out.fil.lt
        have hfil2 := HC.out.fil.more (hb.block _ hgl)
        obtain ⟨v, hcv⟩ := hfil2.cell k (by omega)
        have hfr := hfil2.froz k
        clear hr hn hx hb hfil2
        go_wp2
        go_roundw
        case rel => exact ⟨k + 1, _, by omega, by go_num, HN.out⟩
        case measure => simp [intOf]; omega
      · obtain rfl : m = k := by omega
        go_wp2
        go_ret
        exact ⟨some ⟨w.heap.size, 0, none⟩, A', rfl, rfl, (fun j hj => ⟨(HC.out.row j hj).1, (HC.out.row j hj).2.1⟩), (fun _ => ⟨_, rfl, HC.out.fil.lt, fun j hj => HC.out.fil.get (Nat.le_refl _) j hj⟩), HC.out.bel⟩
end Go.Proofs.Qxb6602753a
