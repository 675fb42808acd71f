/-
  THE PLAIN LAW BEHIND FnToFirstNeededKeepsWhatTheHorizonSees.
-/
import Derived.Test.Qxb6602753aToFirst
namespace Go.Proofs.Qxb6602753a
open Uv

theorem ver_ex {rs : List Rc} {t : Nat} (h : t < rs.length) : ∃ r, rs.reverse[t]? = some r := ⟨_, List.getElem?_eq_getElem (by rw [List.length_reverse]; exact h)⟩
theorem ver_lt {rs : List Rc} {t : Nat} {r : Rc} (h : rs.reverse[t]? = some r) : t < rs.length := by
  by_cases e : t < rs.length
  · exact e
  · rw [List.getElem?_eq_none (by rw [List.length_reverse]; omega)] at h; cases h

/-- The first n versions have growing timestamps. -/
def Grows (rs : List Rc) (n : Nat) : Prop := ∀ t r r', t + 1 < n → rs.reverse[t]? = some r → rs.reverse[t + 1]? = some r' → r.ts < r'.ts

theorem Grows.lt {rs : List Rc} {n : Nat} (h : Grows rs n) : ∀ d i r r', i + (d + 1) < n → rs.reverse[i]? = some r → rs.reverse[i + (d + 1)]? = some r' → r.ts < r'.ts := by
  intro d
  induction d with
  | zero => intro i r r' h1 h2 h3; exact h i r r' h1 h2 h3
  | succ d ih =>
    intro i r r' h1 h2 h3
    have hl := ver_lt h3
    obtain ⟨x, hx⟩ := ver_ex (rs := rs) (t := i + (d + 1)) (by omega)
    have a1 := ih i r x (by omega) h2 hx
    have a2 := h (i + (d + 1)) x r' (by omega) hx h3
    omega

/-- In a growing history a version is at or before the horizon just where its number is below 'firstAbove'. -/
theorem above_iff {rs : List Rc} {hor : Int} {t : Nat} {r : Rc} (h : Grows rs rs.length) (hr : rs.reverse[t]? = some r) : t < firstAbove hor rs.reverse ↔ r.ts ≤ hor := by
  constructor
  · intro ht
    exact firstAbove_lt hor _ t r ht hr
  · intro hle
    by_cases ht : t < firstAbove hor rs.reverse
    · exact ht
    · exfalso
      have hl := ver_lt hr
      obtain ⟨x, hx⟩ := ver_ex (rs := rs) (t := firstAbove hor rs.reverse) (by omega)
      have hxa := firstAbove_at hor rs.reverse x hx
      by_cases e : t = firstAbove hor rs.reverse
      · rw [e, hx] at hr; cases hr; omega
      · have hd := h.lt (t - firstAbove hor rs.reverse - 1) (firstAbove hor rs.reverse) x r (by omega) hx (by rw [show firstAbove hor rs.reverse + (t - firstAbove hor rs.reverse - 1 + 1) = t by omega]; exact hr)
        omega

/-- All versions lie before the newest one. -/
theorem all_below {rs : List Rc} {hor new : Int} (h : Grows rs rs.length) (hl : ∀ r, rs.reverse[rs.length - 1]? = some r → r.ts < new) (hn : new ≤ hor) : firstAbove hor rs.reverse = rs.length := by
  refine need_all fun i r hi hr => ?_
  obtain ⟨x, hx⟩ := ver_ex (rs := rs) (t := rs.length - 1) (by omega)
  have h1 := hl x hx
  by_cases e : i = rs.length - 1
  · rw [e, hx] at hr; cases hr; omega
  · have := h.lt (rs.length - 1 - i - 1) i r x (by omega) hr (by rw [show i + (rs.length - 1 - i - 1 + 1) = rs.length - 1 by omega]; exact hx)
    omega

/-- The number q that the law reckons: what it holds behind t rounds. -/
def qAt (hor : Int) (rs : List Rc) (t : Nat) : Nat := min (firstAbove hor rs.reverse) t - 1
theorem qAt_yes {rs : List Rc} {hor : Int} {t : Nat} {r : Rc} (h : Grows rs rs.length) (hr : rs.reverse[t]? = some r) (hle : r.ts ≤ hor) : qAt hor rs (t + 1) = t := by
  have := (above_iff h hr).2 hle
  unfold qAt
  omega
theorem qAt_no {rs : List Rc} {hor : Int} {t : Nat} {r : Rc} (h : Grows rs rs.length) (hr : rs.reverse[t]? = some r) (hle : ¬ r.ts ≤ hor) : qAt hor rs (t + 1) = qAt hor rs t := by
  have : ¬ t < firstAbove hor rs.reverse := fun hh => hle ((above_iff h hr).1 hh)
  unfold qAt
  omega

/-- Where the cursor stands when the law begins to read: in state q, or behind the last version where q is the newest one. -/
theorem need_q {rs : List Rc} {hor new : Int} (h : Grows rs rs.length) (hl : ∀ r, rs.reverse[rs.length - 1]? = some r → r.ts < new) :
    (new ≤ hor → needAt hor new rs = rs.length + 1) ∧ (¬ new ≤ hor → needAt hor new rs = qAt hor rs rs.length ∧ qAt hor rs rs.length ≤ rs.length) := by
  constructor
  · intro hn
    unfold needAt
    rw [if_pos ⟨all_below h hl hn, hn⟩]
  · intro hn
    have := firstAbove_le hor rs.reverse
    rw [List.length_reverse] at this
    unfold needAt qAt
    rw [if_neg (fun hh => hn hh.2)]
    omega
end Go.Proofs.Qxb6602753a
