/-
  THE CONTRACT OF (*historyCursor).toFirstNeeded (35) AND ITS SHIM (26).
-/
import Derived.Test.Qxb6602753aStates
import Derived.RegionTactic
import Derived.Deep.LoopGhost
import Derived.BigRegion
import Derived.Deep.QuietTactic
import Derived.BigQuiet
namespace Go.Proofs.Qxb6602753a
open Go.RowKit Go.ChangeShapes Go.WideShapes Go.ChangeAt
open Uv

/-- The first version above the horizon, from version t on (the number of versions if there is none). -/
def firstAbove (hor : Int) : List Rc → Nat
  | [] => 0
  | r :: rs => if hor < r.ts then 0 else firstAbove hor rs + 1

/-- The state in which toFirstNeeded leaves the cursor. -/
def needAt (hor new : Int) (rs : List Rc) : Nat :=
  if firstAbove hor rs.reverse = rs.length ∧ new ≤ hor then rs.length + 1 else firstAbove hor rs.reverse - 1

theorem firstAbove_le (hor : Int) : ∀ vs : List Rc, firstAbove hor vs ≤ vs.length := by
  intro vs
  induction vs with
  | nil => exact Nat.le_refl _
  | cons r vs ih =>
    unfold firstAbove
    by_cases h : hor < r.ts
    · rw [if_pos h]; exact Nat.zero_le _
    · rw [if_neg h]; simpa using ih

/-- Told by what stands ahead. -/
theorem firstAbove_is (hor : Int) : ∀ (vs : List Rc) (t : Nat), (∀ i r, i < t → vs[i]? = some r → r.ts ≤ hor) → (∀ r, vs[t]? = some r → hor < r.ts) → t ≤ vs.length → firstAbove hor vs = t := by
  intro vs
  induction vs with
  | nil => intro t _ _ h; simp at h; simp [firstAbove, h]
  | cons r vs ih =>
    intro t h1 h2 h3
    cases t with
    | zero => unfold firstAbove; rw [if_pos (h2 r rfl)]
    | succ t =>
      have h0 := h1 0 r (by omega) rfl
      unfold firstAbove
      rw [if_neg (by omega), ih t (fun i x hi hx => h1 (i + 1) x (by omega) (by simpa using hx)) (fun x hx => h2 x (by simpa using hx)) (by simpa using h3)]

theorem firstAbove_lt (hor : Int) : ∀ (vs : List Rc) (i : Nat) (r : Rc), i < firstAbove hor vs → vs[i]? = some r → r.ts ≤ hor := by
  intro vs
  induction vs with
  | nil => intro i r h; simp [firstAbove] at h
  | cons x vs ih =>
    intro i r h hi
    unfold firstAbove at h
    by_cases hx : hor < x.ts
    · rw [if_pos hx] at h; omega
    · rw [if_neg hx] at h
      cases i with
      | zero => simp at hi; subst hi; omega
      | succ i => exact ih i r (by omega) (by simpa using hi)

theorem firstAbove_at (hor : Int) : ∀ (vs : List Rc) (r : Rc), vs[firstAbove hor vs]? = some r → hor < r.ts := by
  intro vs
  induction vs with
  | nil => intro r h; simp at h
  | cons x vs ih =>
    intro r h
    unfold firstAbove at h
    by_cases hx : hor < x.ts
    · rw [if_pos hx] at h; simp at h; subst h; exact hx
    · rw [if_neg hx] at h; exact ih r (by simpa using h)


theorem need_mid {hor new : Int} {rs : List Rc} {t : Nat} {r : Rc} (h : ∀ i r, i < t → rs.reverse[i]? = some r → r.ts ≤ hor) (hr : rs.reverse[t]? = some r) (hh : hor < r.ts) (ht : t < rs.length) : needAt hor new rs = t - 1 := by
  have hf : firstAbove hor rs.reverse = t := firstAbove_is hor _ t h (fun x hx => by rw [hr] at hx; cases hx; exact hh) (by rw [List.length_reverse]; omega)
  unfold needAt
  rw [hf, if_neg (by omega)]
theorem need_all {hor : Int} {rs : List Rc} (h : ∀ i r, i < rs.length → rs.reverse[i]? = some r → r.ts ≤ hor) : firstAbove hor rs.reverse = rs.length :=
  firstAbove_is hor _ _ h (fun x hx => by rw [List.getElem?_eq_none (by rw [List.length_reverse]; exact Nat.le_refl _)] at hx; cases hx) (by rw [List.length_reverse]; exact Nat.le_refl _)

/-- What toFirstNeeded leaves. -/
def Need (w : World) (N ga c m : Nat) (A : Nat → Option Addr) (L : Nat → Nat) (B : Nat → Nat → Int) (prev hor new : Int) (rs : List Rc) (e : Ending) (w' : World) : Prop :=
  e = .returned (.tuple #[]) ∧ ∃ vr va, Sta w' N ga c m A L B prev rs vr va (needAt hor new rs) ∧ Below c w w'

/-- A state kept in three variables, put back into the cursor. -/
theorem put_back {w w1 : World} {N ga c m s : Nat} {A : Nat → Option Addr} {L : Nat → Nat} {B : Nat → Nat → Int} {prev ts : Int} {rs : List Rc} {vr va vr' va' : Value} (hm : Mem w N ga c m A L B) (hb : Below c w w1) (hc : Cur w1 c vr' va' ts)
    (hr : Rep w1 N ga m L B vr va (stK m rs s) (stP L m rs s) (stN A m rs s)) :
    Sta (((w1.setCell ⟨c, 0, none⟩ vr).setCell ⟨c, 1, none⟩ va).setCell ⟨c, 2, none⟩ (.int .i64 (stT prev rs s))) N ga c m A L B prev rs vr va s ∧ Below c w (((w1.setCell ⟨c, 0, none⟩ vr).setCell ⟨c, 1, none⟩ va).setCell ⟨c, 2, none⟩ (.int .i64 (stT prev rs s))) := by
  have hB1 : Below c w1 (((w1.setCell ⟨c, 0, none⟩ vr).setCell ⟨c, 1, none⟩ va).setCell ⟨c, 2, none⟩ (.int .i64 (stT prev rs s))) :=
    (((Below.refl c w1).setCell (p := ⟨c, 0, none⟩) (Nat.le_refl c) _).setCell (p := ⟨c, 1, none⟩) (Nat.le_refl c) _).setCell (p := ⟨c, 2, none⟩) (Nat.le_refl c) _
  exact ⟨⟨hm.below (hb.trans hB1), cur_set2 (cur_set1 (cur_set0 hc _) _) _, hr.below hB1 hm.nc⟩, hb.trans hB1⟩

set_option maxHeartbeats 1600000 in
theorem t35 (N ga c m : Nat) (A : Nat → Option Addr) (L : Nat → Nat) (B : Nat → Nat → Int) (prev hor new : Int) (rs : List Rc) (vr va : Value) (w : World)
    (hh : Hist L B m prev rs) (hd : Done L m (endK rs) (endP rs)) (hs : Sta w N ga c m A L B prev rs vr va 0) :
    Calls Try.prog 35 #[.pointer (some ⟨c, 0, none⟩), .int .i64 hor, .int .i64 new] w fun e w' => Need w N ga c m A L B prev hor new rs e w' := by
  have HH : Hid (Hist L B m prev rs) := hh
  have HD : Hid (Done L m (endK rs) (endP rs)) := hd
  have HS : Hid (Sta w N ga c m A L B prev rs vr va 0) := hs
  obtain ⟨a0, l0, a1, l1, hvr, hva⟩ := sta_vals hs
  obtain ⟨d0, d1, d2, df, dlt⟩ := cur_cells hs.cur
  rw [hvr] at d0
  rw [hva] at d1
  have HVR : Hid (vr = .slice a0 (L (stK m rs 0) - stP L m rs 0) l0) := hvr
  have HVA : Hid (va = .slice a1 (m - stK m rs 0) l1) := hva
  clear hh hd hs df hvr hva
  go_enter Try.func35, Try.ntmps35
  go_wp2
  go_quiet (fail)
  go_wp2
  obtain ⟨M, hM⟩ : ∃ M, M = rs.length := ⟨_, rfl⟩
  have HM : Hid (M = rs.length) := hM
  have HR0 : Hid (Rep (w.drewN nq) N ga m L B (.slice a0 (L (stK m rs 0) - stP L m rs 0) l0) (.slice a1 (m - stK m rs 0) l1) (stK m rs 0) (stP L m rs 0) (stN A m rs 0)) := by
    have := (HS.out.drewN nq).rep
    rw [HVR.out, HVA.out] at this
    exact this
  clear hM d0 d1 d2
  go_loopg [6, 7, 8] (M + 1) (fun gk v6 v7 v8 wr => ∃ (t : Nat) (vr va : Value), t + gk = M + 1 ∧ t ≤ M ∧ v8 = .int .i64 (stT prev rs (t - 1)) ∧ Rep wr N ga m L B v6 v7 (stK m rs (t - 1)) (stP L m rs (t - 1)) (stN A m rs (t - 1)) ∧
      Sta wr N ga c m A L B prev rs vr va t ∧ (∀ i r, i < t → rs.reverse[i]? = some r → r.ts ≤ hor) ∧ Below c w wr)
  case atStart => exact ⟨0, vr, va, by omega, by omega, rfl, HR0.out, HS.out.drewN nq, fun i r hi => by omega, below_drewN (Below.refl _ _) nq⟩
  case round =>
    clear HR0 HVR HVA HS
    obtain ⟨t, vr, va, hgk, ht, rfl, hrep, hs, hall, hb⟩ := hrel
    obtain ⟨b0, k0, rfl, hb1, hb2, hb3, hb4⟩ := hrep.rest
    obtain ⟨b1, k1, rfl, hb5, hb6, hb7⟩ := hrep.after
    obtain ⟨a0, l0, a1, l1, hvr, hva⟩ := sta_vals hs
    obtain ⟨d0, d1, d2, df, dlt⟩ := cur_cells hs.cur
    rw [hvr] at d0
    rw [hva] at d1
    have HG : Hid (t + gk = M + 1) := hgk
    have HREP : Hid (Rep wr N ga m L B (.slice b0 (L (stK m rs (t - 1)) - stP L m rs (t - 1)) k0) (.slice b1 (m - stK m rs (t - 1)) k1) (stK m rs (t - 1)) (stP L m rs (t - 1)) (stN A m rs (t - 1))) := hrep
    have HS : Hid (Sta wr N ga c m A L B prev rs vr va t) := hs
    have HA : Hid (∀ i r, i < t → rs.reverse[i]? = some r → r.ts ≤ hor) := hall
    have HB : Hid (Below c w wr) := hb
    have HVR : Hid (vr = .slice a0 (L (stK m rs t) - stP L m rs t) l0) := hvr
    have HVA : Hid (va = .slice a1 (m - stK m rs t) l1) := hva
    clear hgk hrep hs hall hb hvr hva df hb1 hb2 hb3 hb4 hb5 hb6 hb7
    go_wp2
    go_quiet (fail)
    have HS1 : Hid (Sta (wr.drewN nq) N ga c m A L B prev rs vr va t) := HS.out.drewN nq
    clear d0 d1 d2
    by_cases hlt : t < M
    · obtain ⟨r, hr, hK⟩ := step_a HH.out HS1.out (by rw [← HM.out]; exact hlt) 34 (.inr rfl)
      have HK : Hid (Calls Try.prog 34 #[.pointer (some ⟨c, 0, none⟩)] (wr.drewN nq) fun e w' => StepA (wr.drewN nq) N ga c m A L B prev rs t r e w') := hK
      have HRr : Hid (rs.reverse[t]? = some r) := hr
      clear hK hr
      go_wp2_with fail
      refine HK.out.mono ?_
      rintro e w7 ⟨vr', va', ab, cb, rfl, hrow, hsta, htt, hb7⟩
      have HSTA : Hid (Sta w7 N ga c m A L B prev rs vr' va' (t + 1)) := hsta
      have HB7 : Hid (Below c wr w7) := (below_drewN (Below.refl c wr) nq).trans hb7
      by_cases hhor : hor < r.ts
      · obtain ⟨e0, e1, e2, ef, elt⟩ := cur_cells hsta.cur
        have ef0 := ef 0
        have ef1 := ef 1
        have ef2 := ef 2
        clear hrow hsta htt hb7 HK ef
        go_wp2
        go_end0
        obtain ⟨f1, f2⟩ := put_back (prev := prev) (rs := rs) (s := t - 1) HS.out.mem HB7.out HSTA.out.cur (HREP.out.below HB7.out HS.out.mem.nc)
        exact ⟨rfl, _, _, by rw [need_mid HA.out HRr.out hhor (by rw [← HM.out]; exact hlt)]; exact f1, HB.out.trans f2⟩
      · clear hrow hsta htt hb7 HK
        have HA2 : Hid (∀ i x, i < t + 1 → rs.reverse[i]? = some x → x.ts ≤ hor) := by
          intro i x hi hx
          by_cases e : i = t
          · subst e
            have := HRr.out
            rw [hx] at this
            cases this
            omega
          · exact HA.out i x (by omega) hx
        go_wp2
        go_roundg (gk - 1)
        case measure => have := HG.out; omega
        case rel =>
          have hr2 := (HS.out.rep.below HB7.out HS.out.mem.nc)
          rw [HVR.out, HVA.out] at hr2
          exact ⟨t + 1, vr', va', by have := HG.out; omega, by omega, rfl, hr2, HSTA.out, HA2.out, HB.out.trans HB7.out⟩
    · obtain rfl : t = M := by omega
      have HK : Hid (Calls Try.prog 34 #[.pointer (some ⟨c, 0, none⟩)] (wr.drewN nq) fun e w' => StepZ (wr.drewN nq) N ga c m A L B prev rs e w') := step_z HD.out HS1.out (.inl HM.out) 34 (.inr rfl)
      have hfa : firstAbove hor rs.reverse = rs.length := need_all (by rw [← HM.out]; exact HA.out)
      have HFA : Hid (firstAbove hor rs.reverse = rs.length) := hfa
      clear hfa
      go_wp2_with fail
      refine HK.out.mono ?_
      rintro e w7 ⟨vr', va', rfl, hsta, hb7⟩
      have HSTA : Hid (Sta w7 N ga c m A L B prev rs vr' va' (rs.length + 1)) := hsta
      have HB7 : Hid (Below c wr w7) := (below_drewN (Below.refl c wr) nq).trans hb7
      by_cases hnew : new ≤ hor
      · clear hsta hb7 HK
        go_wp2
        go_end0
        exact ⟨rfl, vr', va', by unfold needAt; rw [if_pos ⟨HFA.out, hnew⟩]; exact HSTA.out, HB.out.trans HB7.out⟩
      · obtain ⟨e0, e1, e2, ef, elt⟩ := cur_cells hsta.cur
        have ef0 := ef 0
        have ef1 := ef 1
        have ef2 := ef 2
        clear hsta hb7 HK ef
        go_wp2
        go_end0
        obtain ⟨f1, f2⟩ := put_back (prev := prev) (rs := rs) (s := t - 1) HS.out.mem HB7.out HSTA.out.cur (HREP.out.below HB7.out HS.out.mem.nc)
        exact ⟨rfl, _, _, by unfold needAt; rw [if_neg (fun h => by have := h.2; omega), HFA.out, ← HM.out]; exact f1, HB.out.trans f2⟩

theorem t26 (N ga c m : Nat) (A : Nat → Option Addr) (L : Nat → Nat) (B : Nat → Nat → Int) (prev hor new : Int) (rs : List Rc) (vr va : Value) (w : World)
    (hh : Hist L B m prev rs) (hd : Done L m (endK rs) (endP rs)) (hs : Sta w N ga c m A L B prev rs vr va 0) :
    Calls Try.prog 26 #[.pointer (some ⟨c, 0, none⟩), .int .i64 hor, .int .i64 new] w fun e w' => Need w N ga c m A L B prev hor new rs e w' := by
  have HK : Hid (Calls Try.prog 35 #[.pointer (some ⟨c, 0, none⟩), .int .i64 hor, .int .i64 new] w fun e w' => Need w N ga c m A L B prev hor new rs e w') := t35 N ga c m A L B prev hor new rs vr va w hh hd hs
  clear hh hd hs
  go_enter Try.func26, Try.ntmps26
  go_wp2_with fail
  refine HK.out.mono ?_
  rintro e w7 ⟨rfl, vr', va', hsta, hb7⟩
  have HN : Hid (Need w N ga c m A L B prev hor new rs (.returned (.tuple #[])) w7) := ⟨rfl, vr', va', hsta, hb7⟩
  clear hsta hb7
  go_wp2
  go_end0
  exact HN.out

end Go.Proofs.Qxb6602753a
