/-
  ZZNewCursor (21) ONCE MORE, WITH THE PIECES' OWN BOUND KEPT; ZZCursorAfter (27).
-/
import Derived.Test.Qxb6602753aStates
namespace Go.Proofs.Qxb6602753a
open Go.RowKit Go.ChangeShapes Go.WideShapes Go.ChangeAt
open Uv

/-- What ZZNewCursor leaves: a cursor at the history's head; the pieces lie below N, the cursor's own blocks in new memory. -/
def NewCurX (w : World) (N m : Nat) (A : Nat → Option Addr) (L : Nat → Nat) (B : Nat → Nat → Int) (prev : Int) (e : Ending) (w' : World) : Prop :=
  ∃ ga c vr va, e = .returned (.pointer (some ⟨c, 0, none⟩)) ∧ Cur w' c vr va prev ∧ Mem w' N ga c m A L B ∧ Rep w' N ga m L B vr va 0 0 (A 0).isNone ∧ Below w.heap.size w w' ∧ w.heap.size ≤ c ∧ (0 < m → w.heap.size ≤ ga)

theorem curx_nil (N c1 : Nat) (A : Nat → Option Addr) (L : Nat → Nat) (B : Nat → Nat → Int) (prev : Int) (w : World) (hN : N ≤ w.heap.size) (hrow : ∀ j, j ≤ 0 → RowN w N (A j) (L j) (B j)) (hL : L 0 ≤ 1048576) :
    Calls Try.prog 21 #[.slice (A 0) (L 0) (L 0), .slice none 0 c1, .int .i64 prev] w fun e w' => NewCurX w N 0 A L B prev e w' := by
  have hnil := nneq31
  have HR : Hid (∀ j, j ≤ 0 → RowN w N (A j) (L j) (B j)) := hrow
  clear hrow
  go_enter Try.func21, Try.ntmps21
  go_wp2
  go_ret
  have hb : Below w.heap.size w (w.alloc (.cells #[.slice (A 0) (L 0) (L 0), .slice none 0 0, .int .i64 prev] 64)) := (Below.refl _ _).alloc (Nat.le_refl _) _
  refine ⟨0, w.heap.size, _, _, rfl, heap_alloc_new w _, ?_, ?_, hb, Nat.le_refl _, fun h => by omega⟩
  · refine ⟨fun j hj => (HR.out j hj).below hb hN, (fun j hj => by omega), hN, (fun h => by omega), (fun j hj => ?_), by omega⟩
    obtain rfl : j = 0 := by omega
    exact hL
  · refine ⟨⟨A 0, L 0, rfl, by omega, by omega, ?_, rfl⟩, ⟨none, 0, rfl, by omega, by omega, fun h => by omega⟩, Nat.le_refl _, Nat.zero_le _⟩
    have := (HR.out 0 (Nat.le_refl _)).below hb hN
    simpa using this

set_option maxHeartbeats 800000 in
theorem curx_some (N b1 o1 m c1 : Nat) (A : Nat → Option Addr) (L : Nat → Nat) (B : Nat → Nat → Int) (prev : Int) (w : World) (hN : N ≤ w.heap.size) (hrow : ∀ j, j ≤ m → RowN w N (A j) (L j) (B j)) (x : Addr)
    (hx : 0 < m → x = ⟨b1, o1, none⟩ ∧ b1 < w.heap.size ∧ ∀ j, j < m → w.cell? ⟨b1, o1 + j, none⟩ = some (.slice (A (j + 1)) (L (j + 1)) (L (j + 1)))) (hm : m ≤ 65536) (hL : ∀ j, j ≤ m → L j ≤ 1048576) :
    Calls Try.prog 21 #[.slice (A 0) (L 0) (L 0), .slice (some x) m c1, .int .i64 prev] w fun e w' => NewCurX w N m A L B prev e w' := by
  have hnil := nneq31
  have HR : Hid (∀ j, j ≤ m → RowN w N (A j) (L j) (B j)) := hrow
  have HX : Hid (0 < m → x = ⟨b1, o1, none⟩ ∧ b1 < w.heap.size ∧ ∀ j, j < m → w.cell? ⟨b1, o1 + j, none⟩ = some (.slice (A (j + 1)) (L (j + 1)) (L (j + 1)))) := hx
  have HL : Hid (∀ j, j ≤ m → L j ≤ 1048576) := hL
  obtain ⟨W, hmk, hfil, hbW⟩ := filC_make m (fun j => .slice (A (j + 1)) (L (j + 1)) (L (j + 1))) (by omega) w
  have HF : Hid (FilC W w.heap.size m (fun j => .slice (A (j + 1)) (L (j + 1)) (L (j + 1))) 0) := hfil
  have HB : Hid (Below w.heap.size w W) := hbW
  clear hrow hx hL hfil hbW
  go_enter Try.func21, Try.ntmps21
  go_wp2
  go_loopw [8] (fun vk wr => ∃ k : Nat, k ≤ m ∧ vk = .int .i64 (k : Int) ∧ FilC wr w.heap.size m (fun j => .slice (A (j + 1)) (L (j + 1)) (L (j + 1))) k ∧ Below w.heap.size w wr) (fun vk _ => m - (intOf vk).toNat)
  case atStart => exact ⟨0, Nat.zero_le _, rfl, HF.out, HB.out⟩
  case round =>
    obtain ⟨k, hk, rfl, hF, hB⟩ := hrel
    have HF1 : Hid (FilC wr w.heap.size m (fun j => .slice (A (j + 1)) (L (j + 1)) (L (j + 1))) k) := hF
    have HB2 : Hid (Below w.heap.size w wr) := hB
    clear hF hB
    by_cases hlt : k < m
    · obtain ⟨ha, hblt, hcP⟩ := HX.out (by omega)
      subst ha
      have hck : wr.cell? ⟨b1, o1 + k, none⟩ = some (.slice (A (k + 1)) (L (k + 1)) (L (k + 1))) := by
        rw [HB2.out.cell (by exact hblt)]
        exact hcP k hlt
      obtain ⟨v, hcv⟩ := HF1.out.cell (k * 3 + 1) (by omega)
      have hfr := HF1.out.froz (k * 3 + 1)
      clear hcP
      go_wp2
      go_roundw
      case rel => exact ⟨k + 1, by omega, by go_num, HF1.out.step hlt, HB2.out.setCell (Nat.le_refl _) _⟩
      case measure => simp [intOf]; omega
    · obtain rfl : m = k := by omega
      go_wp2
      go_ret
      have hg := HF1.out.lt
      have hb3 : Below wr.heap.size wr (wr.alloc (.cells #[.slice (A 0) (L 0) (L 0), .slice (some ⟨w.heap.size, 0, none⟩) m m, .int .i64 prev] 64)) := (Below.refl _ _).alloc (Nat.le_refl _) _
      refine ⟨w.heap.size, wr.heap.size, _, _, rfl, heap_alloc_new wr _, ?_, ?_, HB2.out.alloc HB2.out.size _, HB2.out.size, fun _ => Nat.le_refl _⟩
      · refine ⟨fun j hj => ?_, (fun j hj => ?_), by omega, (fun h => ⟨hN, hg⟩), HL.out, hm⟩
        · exact ((HR.out j hj).below HB2.out hN).below hb3 (by omega)
        · rw [hb3.cell (by exact hg)]
          exact HF1.out.get (Nat.le_refl _) j hj
      · have h0 := HL.out 0 (Nat.zero_le _)
        refine ⟨⟨A 0, L 0, rfl, by omega, by omega, ?_, rfl⟩, ⟨_, m, rfl, by omega, by omega, fun h => by rw [Nat.zero_mul]⟩, Nat.zero_le _, Nat.zero_le _⟩
        have := ((HR.out 0 (Nat.zero_le _)).below HB2.out hN).below hb3 (by omega)
        simpa using this

theorem curx (N m c1 : Nat) (a1 : Option Addr) (A : Nat → Option Addr) (L : Nat → Nat) (B : Nat → Nat → Int) (prev : Int) (w : World) (hN : N ≤ w.heap.size) (hin : HIn w a1 m A L L B) (hrow : ∀ j, j ≤ m → RowN w N (A j) (L j) (B j)) (hm : m ≤ 65536) (hL : ∀ j, j ≤ m → L j ≤ 1048576) :
    Calls Try.prog 21 #[.slice (A 0) (L 0) (L 0), .slice a1 m c1, .int .i64 prev] w fun e w' => NewCurX w N m A L B prev e w' := by
  cases a1 with
  | none =>
    obtain rfl : m = 0 := by
      by_cases h : m = 0
      · exact h
      · obtain ⟨b, off, h1, _⟩ := hin.top (by omega)
        cases h1
    exact curx_nil N c1 A L B prev w hN hrow (hL 0 (Nat.le_refl _))
  | some x =>
    by_cases h : 0 < m
    · obtain ⟨b, off, h1, h2, h3⟩ := hin.top h
      cases h1
      exact curx_some N b off m c1 A L B prev w hN hrow _ (fun _ => ⟨rfl, h2, h3⟩) hm hL
    · exact curx_some N 0 0 m c1 A L B prev w hN hrow x (fun h' => absurd h' h) hm hL

/-- What ZZCursorAfter leaves: a new row of the chunks ahead. -/
def AfterC (w : World) (m k : Nat) (A : Nat → Option Addr) (L : Nat → Nat) (e : Ending) (w' : World) : Prop :=
  ∃ g, e = .returned (.slice (some ⟨g, 0, none⟩) (m - k) (m - k)) ∧ (∀ j, j < m - k → w'.cell? ⟨g, j, none⟩ = some (.slice (A (k + j + 1)) (L (k + j + 1)) (L (k + j + 1)))) ∧ Below w.heap.size w w'

set_option maxHeartbeats 800000 in
theorem after27 (N ga c m k p : Nat) (nl : Bool) (A : Nat → Option Addr) (L : Nat → Nat) (B : Nat → Nat → Int) (vr va : Value) (ts : Int) (w : World) (hmem : Mem w N ga c m A L B) (hcur : Cur w c vr va ts) (hrep : Rep w N ga m L B vr va k p nl) :
    Calls Try.prog 27 #[.pointer (some ⟨c, 0, none⟩)] w fun e w' => AfterC w m k A L e w' := by
  obtain ⟨aa, ca, rfl, ha1, ha2, haa⟩ := hrep.after
  obtain ⟨c0, c1, c2, cf, clt⟩ := cur_cells hcur
  have hmle := hmem.mle
  have hkm := hrep.km
  obtain ⟨q, hq⟩ : ∃ q, m - k = q := ⟨_, rfl⟩
  rw [hq] at c1 ha1
  obtain ⟨W, hmk, hfil, hbW⟩ := filV_make q (fun j => .slice (A (k + j + 1)) (L (k + j + 1)) (L (k + j + 1))) (by omega) w
  have HF : Hid (FilV W w.heap.size 22 q (fun j => .slice (A (k + j + 1)) (L (k + j + 1)) (L (k + j + 1))) 0) := hfil
  have HB : Hid (Below w.heap.size w W) := hbW
  have HM : Hid (Mem w N ga c m A L B) := hmem
  have HA : Hid (0 < q → aa = some ⟨ga, k * 3, none⟩) := by rw [← hq]; exact haa
  have HQ : Hid (m - k = q) := hq
  have HC1 : Hid (w.cell? ⟨c, 1, none⟩ = some (.slice aa q ca)) := c1
  clear hmem hcur hrep cf c0 c2 hfil hbW haa hq
  go_enter Try.func27, Try.ntmps27
  go_wp2
  go_loopw [4] (fun vj wr => ∃ j : Nat, j ≤ q ∧ vj = .int .i64 (j : Int) ∧ FilV wr w.heap.size 22 q (fun j => .slice (A (k + j + 1)) (L (k + j + 1)) (L (k + j + 1))) j ∧ Below w.heap.size w wr) (fun vj _ => q - (intOf vj).toNat)
  case atStart => exact ⟨0, Nat.zero_le _, rfl, HF.out, HB.out⟩
  case round =>
    obtain ⟨j, hj, rfl, hF, hB⟩ := hrel
    have HF1 : Hid (FilV wr w.heap.size 22 q (fun j => .slice (A (k + j + 1)) (L (k + j + 1)) (L (k + j + 1))) j) := hF
    have HB2 : Hid (Below w.heap.size w wr) := hB
    have hc1 : wr.cell? ⟨c, 1, none⟩ = some (.slice aa q ca) := by rw [hB.cell (by exact clt)]; exact HC1.out
    clear hF hB c1
    by_cases hlt : j < q
    · have ha := HA.out (by omega)
      subst ha
      have hga := (HM.out.nga (by have := HQ.out; omega)).2
      have hck : wr.cell? ⟨ga, k * 3 + j * 3 + 1, none⟩ = some (.slice (A (k + j + 1)) (L (k + j + 1)) (L (k + j + 1))) := by
        rw [HB2.out.cell (by show ga < w.heap.size; omega), ← Nat.add_mul]
        exact HM.out.aft (k + j) (by have := HQ.out; omega)
      obtain ⟨v, hcv⟩ := HF1.out.cell j (by omega)
      have hfr := HF1.out.froz j
      go_wp2
      go_roundw
      case rel => exact ⟨j + 1, by omega, by go_num, HF1.out.step (by omega) rfl (fun _ _ => rfl), HB2.out.setCell (Nat.le_refl _) _⟩
      case measure => simp [intOf]; omega
    · obtain rfl : q = j := by omega
      go_wp2
      go_ret
      exact ⟨w.heap.size, by rw [HQ.out]; rfl, by rw [HQ.out]; exact HF1.out.get (Nat.le_refl _), HB2.out⟩
end Go.Proofs.Qxb6602753a
