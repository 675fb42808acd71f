/-
  THE PLAIN MODEL OF A HISTORY: records over pieces 0 .. m. No Go in sight but for the address that a version's body had.
-/
import Derived.Test.Qxb6602753aPlain
import Derived.RowKit
namespace Go.Proofs.Qxb6602753a.Uv

/-- One varint at place p: n bytes of 128 and above, then one below, all inside the piece. -/
structure Vi (B : Nat → Int) (len p n : Nat) : Prop where
  inn : p + n < len
  mid : ∀ k, k < n → 128 ≤ B (p + k)
  stop : B (p + n) < 128

/-- One record at place p: the delta d, the body of n bytes at place s. -/
def Rec (B : Nat → Int) (len p : Nat) (d : Int) (s n : Nat) : Prop :=
  ∃ n1 n2, Vi B len p n1 ∧ d = uv B p (n1 + 1) ∧ Vi B len (p + n1 + 1) n2 ∧ (n : Int) = uv B (p + n1 + 1) (n2 + 1) ∧ s = p + n1 + 1 + n2 + 1 ∧ s + n ≤ len

theorem Rec.lt {B : Nat → Int} {len p s n : Nat} {d : Int} (h : Rec B len p d s n) : p + 2 ≤ s ∧ s + n ≤ len := by
  obtain ⟨n1, n2, _, _, _, _, hs, hl⟩ := h
  exact ⟨by omega, hl⟩

/-- A version: piece k, record from p, body at s of n bytes; its delta, its timestamp; the body's slice as the parser cut it. -/
structure Rc where
  k : Nat
  p : Nat
  s : Nat
  n : Nat
  d : Int
  ts : Int
  a : Option Addr
  c : Nat

/-- The timestamp behind a delta. -/
def tadd (ts d : Int) : Int := RowKit.wrap64 (ts + RowKit.wrap64 d)

/-- The version r is the next one from place p of piece k. -/
structure StepOk (L : Nat → Nat) (B : Nat → Nat → Int) (m k p : Nat) (ts : Int) (r : Rc) : Prop where
  way : (r.k = k ∧ r.p = p) ∨ (k < r.k ∧ p = L k ∧ (∀ j, k < j → j < r.k → L j = 0) ∧ r.p = 0)
  km : r.k ≤ m
  pl : r.p < L r.k
  rc : Rec (B r.k) (L r.k) r.p r.d r.s r.n
  tm : r.ts = tadd ts r.d

/-- No version is left from place p of piece k on. -/
def Done (L : Nat → Nat) (m k p : Nat) : Prop := p = L k ∧ ∀ j, k < j → j ≤ m → L j = 0

def endK : List Rc → Nat | [] => 0 | r :: _ => r.k
def endP : List Rc → Nat | [] => 0 | r :: _ => r.s + r.n
def endT (prev : Int) : List Rc → Int | [] => prev | r :: _ => r.ts

/-- The versions that were read, the newest first. -/
def Hist (L : Nat → Nat) (B : Nat → Nat → Int) (m : Nat) (prev : Int) : List Rc → Prop
  | [] => True
  | r :: rs => Hist L B m prev rs ∧ StepOk L B m (endK rs) (endP rs) (endT prev rs) r

theorem Hist.drop {L : Nat → Nat} {B : Nat → Nat → Int} {m : Nat} {prev : Int} : ∀ (rs : List Rc) (j : Nat), Hist L B m prev rs → Hist L B m prev (rs.drop j) := by
  intro rs
  induction rs with
  | nil => intro j h; simpa using h
  | cons r rs ih =>
    intro j h
    cases j with
    | zero => exact h
    | succ j => exact ih j h.1

theorem endK_le {L : Nat → Nat} {B : Nat → Nat → Int} {m : Nat} {prev : Int} {rs : List Rc} (h : Hist L B m prev rs) : endK rs ≤ m := by
  cases rs with
  | nil => exact Nat.zero_le _
  | cons r rs => exact h.2.km
theorem endP_le {L : Nat → Nat} {B : Nat → Nat → Int} {m : Nat} {prev : Int} {rs : List Rc} (h : Hist L B m prev rs) : endP rs ≤ L (endK rs) := by
  cases rs with
  | nil => exact Nat.zero_le _
  | cons r rs => exact h.2.rc.lt.2

/-- All bytes of the pieces below k. -/
def tot (L : Nat → Nat) : Nat → Nat
  | 0 => 0
  | k + 1 => tot L k + L k
theorem tot_mono (L : Nat → Nat) {a b : Nat} (h : a ≤ b) : tot L a ≤ tot L b := by
  induction b with
  | zero => obtain rfl : a = 0 := by omega
            exact Nat.le_refl _
  | succ b ih =>
    by_cases e : a = b + 1
    · subst e; exact Nat.le_refl _
    · have := ih (by omega)
      rw [tot]; omega

/-- There are no more versions than bytes. -/
theorem hist_len {L : Nat → Nat} {B : Nat → Nat → Int} {m : Nat} {prev : Int} : ∀ {rs : List Rc}, Hist L B m prev rs → rs.length ≤ tot L (endK rs) + endP rs := by
  intro rs
  induction rs with
  | nil => intro _; exact Nat.zero_le _
  | cons r rs ih =>
    intro h
    have h1 := ih h.1
    have hlt := h.2.rc.lt
    have hep := endP_le h.1
    show rs.length + 1 ≤ tot L r.k + (r.s + r.n)
    rcases h.2.way with ⟨e1, e2⟩ | ⟨e1, e2, _, e4⟩
    · rw [e1]; omega
    · have : tot L (endK rs + 1) ≤ tot L r.k := tot_mono L (by omega)
      rw [tot] at this
      omega

/-- Version t (from the oldest, number 0) is the head of what was read behind t + 1 versions. -/
theorem drop_head (rs : List Rc) (t : Nat) (h : t < rs.length) : ∃ r, rs.drop (rs.length - (t + 1)) = r :: rs.drop (rs.length - t) ∧ rs.reverse[t]? = some r := by
  have h1 : rs.length - (t + 1) < rs.length := by omega
  refine ⟨rs[rs.length - (t + 1)], ?_, ?_⟩
  · rw [List.drop_eq_getElem_cons h1, show rs.length - (t + 1) + 1 = rs.length - t by omega]
  · rw [List.getElem?_reverse (by omega), show rs.length - 1 - t = rs.length - (t + 1) by omega, List.getElem?_eq_getElem h1]

end Go.Proofs.Qxb6602753a.Uv
