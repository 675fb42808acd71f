/-
  THE CURSOR's STATES BY THEIR NUMBER: state t: behind t calls of next (t up to the number of versions and one more).
-/
import Derived.Test.Qxb6602753aSmallWalks
import Derived.Test.Qxb6602753aParseWalk
namespace Go.Proofs.Qxb6602753a
open Go.RowKit Go.ChangeShapes Go.WideShapes Go.ChangeAt
open Uv

def stL (rs : List Rc) (t : Nat) : List Rc := rs.drop (rs.length - t)
def stK (m : Nat) (rs : List Rc) (t : Nat) : Nat := if t ≤ rs.length then endK (stL rs t) else m
def stP (L : Nat → Nat) (m : Nat) (rs : List Rc) (t : Nat) : Nat := if t ≤ rs.length then endP (stL rs t) else L m
def stN (A : Nat → Option Addr) (m : Nat) (rs : List Rc) (t : Nat) : Bool :=
  if t ≤ rs.length then (if t = 0 then (A 0).isNone else false) else (if endK rs = m then (if rs.length = 0 then (A 0).isNone else false) else (A m).isNone)
def stT (prev : Int) (rs : List Rc) (t : Nat) : Int := endT prev (stL rs t)

/-- The cursor in block c stands in state t. -/
structure Sta (w : World) (N ga c m : Nat) (A : Nat → Option Addr) (L : Nat → Nat) (B : Nat → Nat → Int) (prev : Int) (rs : List Rc) (vr va : Value) (t : Nat) : Prop where
  mem : Mem w N ga c m A L B
  cur : Cur w c vr va (stT prev rs t)
  rep : Rep w N ga m L B vr va (stK m rs t) (stP L m rs t) (stN A m rs t)

theorem Sta.drewN {w : World} {N ga c m : Nat} {A : Nat → Option Addr} {L : Nat → Nat} {B : Nat → Nat → Int} {prev : Int} {rs : List Rc} {vr va : Value} {t : Nat} (h : Sta w N ga c m A L B prev rs vr va t) (n : Nat) : Sta (w.drewN n) N ga c m A L B prev rs vr va t :=
  ⟨h.mem.below (below_drewN (Below.refl _ _) n), h.cur, h.rep.below (below_drewN (Below.refl c w) n) h.mem.nc⟩

theorem stL_len (rs : List Rc) : stL rs rs.length = rs := by simp [stL]
theorem stL_zero (rs : List Rc) : stL rs 0 = [] := by simp [stL]
theorem stL_more (rs : List Rc) {t : Nat} (h : rs.length ≤ t) : stL rs t = rs := by
  unfold stL
  rw [show rs.length - t = 0 by omega]
  rfl

/-- A version is ahead. -/
def StepA (w : World) (N ga c m : Nat) (A : Nat → Option Addr) (L : Nat → Nat) (B : Nat → Nat → Int) (prev : Int) (rs : List Rc) (t : Nat) (r : Rc) (e : Ending) (w' : World) : Prop :=
  ∃ vr va ab cb, e = .returned (.tuple #[.int .i64 r.ts, .slice ab r.n cb, .bool true]) ∧ RowN w' N ab r.n (fun i => B r.k (r.s + i)) ∧ Sta w' N ga c m A L B prev rs vr va (t + 1) ∧ stT prev rs (t + 1) = r.ts ∧ Below c w w'

theorem step_a {w : World} {N ga c m : Nat} {A : Nat → Option Addr} {L : Nat → Nat} {B : Nat → Nat → Int} {prev : Int} {rs : List Rc} {vr va : Value} {t : Nat} (hh : Hist L B m prev rs) (hs : Sta w N ga c m A L B prev rs vr va t) (ht : t < rs.length) (f : Nat) (hf : f = 22 ∨ f = 34) :
    ∃ r, rs.reverse[t]? = some r ∧ Calls Try.prog f #[.pointer (some ⟨c, 0, none⟩)] w fun e w' => StepA w N ga c m A L B prev rs t r e w' := by
  obtain ⟨r, h1, h2⟩ := drop_head rs t ht
  refine ⟨r, h2, ?_⟩
  have hd : Hist L B m prev (r :: stL rs t) := by
    have := Hist.drop rs (rs.length - (t + 1)) hh
    rw [h1] at this
    exact this
  have e1 : stL rs (t + 1) = r :: stL rs t := h1
  have hstep : StepOk L B m (stK m rs t) (stP L m rs t) (stT prev rs t) r := by
    unfold stK stP stT
    rw [if_pos (by omega), if_pos (by omega)]
    exact hd.2
  have fin : ∀ e w', NextOk w N ga c m L B r e w' → StepA w N ga c m A L B prev rs t r e w' := by
    rintro e w' ⟨vr', va', ab, cb, he, hrow, hcur, hrep, hb⟩
    have e2 : stT prev rs (t + 1) = r.ts := by unfold stT; rw [e1]; rfl
    refine ⟨vr', va', ab, cb, he, hrow, ⟨hs.mem.below hb, by rw [e2]; exact hcur, ?_⟩, e2, hb⟩
    have k1 : stK m rs (t + 1) = r.k := by unfold stK; rw [if_pos (by omega), e1]; rfl
    have k2 : stP L m rs (t + 1) = r.s + r.n := by unfold stP; rw [if_pos (by omega), e1]; rfl
    have k3 : stN A m rs (t + 1) = false := by unfold stN; rw [if_pos (by omega), if_neg (by omega)]
    rw [k1, k2, k3]
    exact hrep
  rcases hf with rfl | rfl
  · exact (n22_ok N ga c m _ _ _ A L B vr va _ r w hs.mem hs.cur hs.rep hstep).mono fin
  · exact (n34_ok N ga c m _ _ _ A L B vr va _ r w hs.mem hs.cur hs.rep hstep).mono fin

/-- No version is ahead. -/
def StepZ (w : World) (N ga c m : Nat) (A : Nat → Option Addr) (L : Nat → Nat) (B : Nat → Nat → Int) (prev : Int) (rs : List Rc) (e : Ending) (w' : World) : Prop :=
  ∃ vr va, e = .returned (.tuple #[.int .i64 0, .slice none 0 0, .bool false]) ∧ Sta w' N ga c m A L B prev rs vr va (rs.length + 1) ∧ Below c w w'

theorem step_z {w : World} {N ga c m : Nat} {A : Nat → Option Addr} {L : Nat → Nat} {B : Nat → Nat → Int} {prev : Int} {rs : List Rc} {vr va : Value} {t : Nat} (hdone : Done L m (endK rs) (endP rs)) (hs : Sta w N ga c m A L B prev rs vr va t) (ht : t = rs.length ∨ t = rs.length + 1) (f : Nat) (hf : f = 22 ∨ f = 34) :
    Calls Try.prog f #[.pointer (some ⟨c, 0, none⟩)] w fun e w' => StepZ w N ga c m A L B prev rs e w' := by
  have hd : Done L m (stK m rs t) (stP L m rs t) := by
    rcases ht with rfl | rfl
    · unfold stK stP
      rw [if_pos (Nat.le_refl _), if_pos (Nat.le_refl _), stL_len]
      exact hdone
    · unfold stK stP
      rw [if_neg (by omega), if_neg (by omega)]
      exact ⟨rfl, fun j h1 h2 => by omega⟩
  have hT : stT prev rs t = stT prev rs (rs.length + 1) := by
    unfold stT
    rw [stL_more rs (show rs.length ≤ t by omega), stL_more rs (show rs.length ≤ rs.length + 1 by omega)]
  have hN : (if stK m rs t = m then stN A m rs t else (A m).isNone) = stN A m rs (rs.length + 1) := by
    rcases ht with rfl | rfl
    · unfold stK stN
      rw [if_pos (Nat.le_refl _), if_pos (Nat.le_refl _), stL_len, if_neg (show ¬ rs.length + 1 ≤ rs.length by omega)]
    · have hk : stK m rs (rs.length + 1) = m := by unfold stK; rw [if_neg (by omega)]
      rw [hk, if_pos rfl]
  have fin : ∀ e w', NextEnd w N ga c m L B (stT prev rs t) (if stK m rs t = m then stN A m rs t else (A m).isNone) e w' → StepZ w N ga c m A L B prev rs e w' := by
    rintro e w' ⟨vr', va', he, hcur, hrep, hb⟩
    refine ⟨vr', va', he, ⟨hs.mem.below hb, by rw [← hT]; exact hcur, ?_⟩, hb⟩
    have k1 : stK m rs (rs.length + 1) = m := by unfold stK; rw [if_neg (by omega)]
    have k2 : stP L m rs (rs.length + 1) = L m := by unfold stP; rw [if_neg (by omega)]
    rw [k1, k2, ← hN]
    exact hrep
  rcases hf with rfl | rfl
  · exact (n22_end N ga c m _ _ _ A L B vr va _ w hs.mem hs.cur hs.rep hd).mono fin
  · exact (n34_end N ga c m _ _ _ A L B vr va _ w hs.mem hs.cur hs.rep hd).mono fin

/-- The versions' cells in memory. -/
def Vers (w : World) (g : Nat) (rs : List Rc) : Prop := ∀ t r, rs.reverse[t]? = some r → w.cell? ⟨g, t * 2, none⟩ = some (.int .i64 r.ts) ∧ w.cell? ⟨g, t * 2 + 1, none⟩ = some (.slice r.a r.n r.c)
theorem Vers.below {w w' : World} {g M : Nat} {rs : List Rc} (h : Vers w g rs) (hb : Below M w w') (hg : g < M) : Vers w' g rs := fun t r ht => by
  rw [hb.cell (by exact hg), hb.cell (by exact hg)]
  exact h t r ht

theorem verCells_length (rs : List Rc) : (verCells rs).length = rs.length * 2 := by
  induction rs with
  | nil => rfl
  | cons r rs ih => simp [verCells, ih]; omega

theorem verCells_at : ∀ (rs : List Rc) (t : Nat) (r : Rc), rs.reverse[t]? = some r → (verCells rs)[t * 2]? = some (.int .i64 r.ts) ∧ (verCells rs)[t * 2 + 1]? = some (.slice r.a r.n r.c) := by
  intro rs
  induction rs with
  | nil => intro t r h; simp at h
  | cons x rs ih =>
    intro t r h
    rw [List.reverse_cons] at h
    have hl := verCells_length rs
    by_cases ht : t < rs.length
    · rw [List.getElem?_append_left (by rw [List.length_reverse]; exact ht)] at h
      obtain ⟨h1, h2⟩ := ih t r h
      rw [verCells, List.getElem?_append_left (by omega), List.getElem?_append_left (by omega)]
      exact ⟨h1, h2⟩
    · rw [List.getElem?_append_right (by rw [List.length_reverse]; omega), List.length_reverse] at h
      have ht2 : t = rs.length := by
        by_cases e : t = rs.length
        · exact e
        · rw [List.getElem?_eq_none (by simp; omega)] at h; cases h
      subst ht2
      simp only [Nat.sub_self, List.getElem?_cons_zero, Option.some.injEq] at h
      subst h
      rw [verCells, List.getElem?_append_right (by omega), List.getElem?_append_right (by omega), hl]
      refine ⟨by simp, ?_⟩
      rw [show rs.length * 2 + 1 - rs.length * 2 = 1 by omega]
      rfl

/-- The slice of versions: nil where there is none; else at the head of a block whose cells are known. -/
theorem vers_of {w w' : World} {L : Nat → Nat} {B : Nat → Nat → Int} {m : Nat} {prev : Int} {rs : List Rc} {v : Value} (h : PSt w L B m prev rs v w') :
    ∃ a cap g, v = .slice a rs.length cap ∧ (0 < rs.length → a = some ⟨g, 0, none⟩ ∧ g < w'.heap.size) ∧ Vers w' g rs := by
  rcases h.own.2 with ⟨hv, hl⟩ | ⟨g, cap, cur, hv, hg, hh, _⟩
  · refine ⟨none, 0, 0, by rw [hv, hl], (fun h => by omega), fun t r ht => ?_⟩
    rw [List.getElem?_eq_none (by rw [List.length_reverse]; omega)] at ht
    cases ht
  · refine ⟨some ⟨g, 0, none⟩, cap, g, hv, fun _ => ⟨rfl, (Array.getElem?_eq_some_iff.1 hh).1⟩, fun t r ht => ?_⟩
    have hlt : t < rs.length := by
      by_cases e : t < rs.length
      · exact e
      · rw [List.getElem?_eq_none (by rw [List.length_reverse]; omega)] at ht; cases ht
    have ho := h.own
    rw [hv] at ho
    obtain ⟨c1, c2⟩ := verCells_at rs t r ht
    exact ⟨by rw [ho.cellAt (t * 2) (by omega)]; exact c1, by rw [ho.cellAt (t * 2 + 1) (by omega)]; exact c2⟩


/-- The two clones together are a history once more, each slice as long as its row. -/
theorem clones_in {w2 w3 : World} {a0' a1' : Option Addr} {m : Nat} {A' : Nat → Option Addr} {L : Nat → Nat} {B : Nat → Nat → Int} (hm : m ≤ 65536) (hL : ∀ j, j ≤ m → L j ≤ 1048576)
    (h0 : RowN w2 w2.heap.size a0' (L 0) (B 0)) (hb : Below w2.heap.size w2 w3) (h1 : ∀ j, j < m → RowN w3 w3.heap.size (A' (j + 1)) (L (j + 1)) (B (j + 1)))
    (h2 : 0 < m → ∃ b, a1' = some ⟨b, 0, none⟩ ∧ b < w3.heap.size ∧ ∀ j, j < m → w3.cell? ⟨b, j, none⟩ = some (.slice (A' (j + 1)) (L (j + 1)) (L (j + 1)))) :
    HIn w3 a1' m (fun j => if j = 0 then a0' else A' j) L L B := by
  refine ⟨fun j hj => ?_, fun j hj => ⟨Nat.le_refl _, by have := hL j hj; omega⟩, by omega, fun h => ?_⟩
  · cases j with
    | zero => exact (h0.below hb (Nat.le_refl _)).mono hb.size
    | succ j => exact h1 j (by omega)
  · obtain ⟨b, g1, g2, g3⟩ := h2 h
    exact ⟨b, 0, g1, g2, fun j hj => by rw [Nat.zero_add]; exact g3 j hj⟩

theorem hist_n {L : Nat → Nat} {B : Nat → Nat → Int} {m : Nat} {prev : Int} : ∀ {rs : List Rc}, Hist L B m prev rs → ∀ r, r ∈ rs → r.k ≤ m ∧ r.s + r.n ≤ L r.k := by
  intro rs
  induction rs with
  | nil => intro _ r hr; cases hr
  | cons x rs ih =>
    intro h r hr
    rcases List.mem_cons.1 hr with rfl | hr
    · exact ⟨h.2.km, h.2.rc.lt.2⟩
    · exact ih h.1 r hr
theorem mem_of_rev {rs : List Rc} {t : Nat} {r : Rc} (h : rs.reverse[t]? = some r) : r ∈ rs := List.mem_reverse.1 (List.mem_of_getElem? h)

/-- What a state's slices look like, for the walk. -/
theorem sta_vals {w : World} {N ga c m : Nat} {A : Nat → Option Addr} {L : Nat → Nat} {B : Nat → Nat → Int} {prev : Int} {rs : List Rc} {vr va : Value} {t : Nat} (h : Sta w N ga c m A L B prev rs vr va t) :
    ∃ a cc aa ca, vr = .slice a (L (stK m rs t) - stP L m rs t) cc ∧ va = .slice aa (m - stK m rs t) ca := by
  obtain ⟨a, cc, h1, _⟩ := h.rep.rest
  obtain ⟨aa, ca, h2, _⟩ := h.rep.after
  exact ⟨a, cc, aa, ca, h1, h2⟩

/-- A small history: every piece is. -/
theorem len_of_tot {L : Nat → Nat} {m : Nat} (h : tot L (m + 1) ≤ 1048576) (j : Nat) (hj : j ≤ m) : L j ≤ 1048576 := by
  have : tot L (j + 1) ≤ tot L (m + 1) := tot_mono L (by omega)
  rw [tot] at this
  omega

end Go.Proofs.Qxb6602753a
