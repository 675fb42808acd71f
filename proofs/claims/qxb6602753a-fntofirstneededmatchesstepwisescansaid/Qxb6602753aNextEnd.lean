/-
  THE CONTRACT OF (*historyCursor).next (34) AT THE HISTORY's END; THE SHIM ZZNext (22); ZZCursorPlace (24).
-/
import Derived.Test.Qxb6602753aNextWalk
namespace Go.Proofs.Qxb6602753a
open Go.RowKit Go.ChangeShapes Go.WideShapes Go.ChangeAt
open Uv

/-- What next leaves where no version is ahead. -/
def NextEnd (w : World) (N ga c m : Nat) (L : Nat → Nat) (B : Nat → Nat → Int) (ts : Int) (nl : Bool) (e : Ending) (w' : World) : Prop :=
  ∃ vr va, e = .returned (.tuple #[.int .i64 0, .slice none 0 0, .bool false]) ∧ Cur w' c vr va ts ∧ Rep w' N ga m L B vr va m (L m) nl ∧ Below c w w'

theorem done_step {L : Nat → Nat} {m k p : Nat} (h : Done L m k p) (hk : k < m) : Done L m (k + 1) 0 :=
  ⟨(h.2 (k + 1) (by omega) (by omega)).symm, fun j h1 h2 => h.2 j (by omega) h2⟩

set_option maxHeartbeats 1600000 in
theorem n34_end (N ga c m k p : Nat) (nl : Bool) (A : Nat → Option Addr) (L : Nat → Nat) (B : Nat → Nat → Int) (vr va : Value) (ts : Int) (w : World)
    (hmem : Mem w N ga c m A L B) (hcur : Cur w c vr va ts) (hrep : Rep w N ga m L B vr va k p nl) (hdone : Done L m k p) :
    Calls Try.prog 34 #[.pointer (some ⟨c, 0, none⟩)] w fun e w' => NextEnd w N ga c m L B ts (if k = m then nl else (A m).isNone) e w' := by
  obtain ⟨nf, hnf⟩ : ∃ nf, nf = (if k = m then nl else (A m).isNone) := ⟨_, rfl⟩
  rw [← hnf]
  have HM : Hid (Mem w N ga c m A L B) := hmem
  have HC : Hid (Cur w c vr va ts) := hcur
  have HR : Hid (Rep w N ga m L B vr va k p nl) := hrep
  have HD : Hid (Done L m k p) := hdone
  have HN : Hid (nf = (if k = m then nl else (A m).isNone)) := hnf
  clear hmem hcur hrep hdone hnf
  go_enter Try.func34, Try.ntmps34
  go_wp2
  go_loopw [] (fun wr => ∃ (k p : Nat) (vr va : Value) (nl : Bool), Cur wr c vr va ts ∧ Rep wr N ga m L B vr va k p nl ∧ Done L m k p ∧ nf = (if k = m then nl else (A m).isNone) ∧ Below c w wr) (fun wr => aftLen wr c)
  case atStart => exact ⟨k, p, vr, va, nl, HC.out, HR.out, HD.out, HN.out, Below.refl _ _⟩
  case round =>
    clear HC HR HD HN
    obtain ⟨k, p, vr, va, nl, hc, hr, hd, hn, hb⟩ := hrel
    obtain ⟨ar, cr, rfl, hr1, hr2, hrow, hnl⟩ := hr.rest
    obtain ⟨aa, ca, rfl, ha1, ha2, haa⟩ := hr.after
    obtain ⟨c0, c1, c2, cf, clt⟩ := cur_cells hc
    have cf0 := cf 0
    have cf1 := cf 1
    have hkm := hr.km
    have hp0 := hd.1
    have HC : Hid (Cur wr c (.slice ar (L k - p) cr) (.slice aa (m - k) ca) ts) := hc
    have HR : Hid (Rep wr N ga m L B (.slice ar (L k - p) cr) (.slice aa (m - k) ca) k p nl) := hr
    have HD : Hid (Done L m k p) := hd
    have HB : Hid (Below c w wr) := hb
    have HN : Hid (nf = (if k = m then nl else (A m).isNone)) := hn
    rw [show L k - p = 0 by omega] at c0
    clear hc hr hd hb cf hrow hnl hn hp0 hr1
    by_cases hlast : k = m
    · subst hlast
      rw [Nat.sub_self] at c1
      have hfin : Hid (Cur wr c (.slice ar (L k - p) cr) (.slice aa (k - k) ca) ts ∧ Rep wr N ga k L B (.slice ar (L k - p) cr) (.slice aa (k - k) ca) k (L k) nl ∧ nf = nl) :=
        ⟨HC.out, by have := HR.out; rw [HD.out.1] at this ⊢; exact this, by have := HN.out; rw [if_pos rfl] at this; exact this⟩
      go_wp2
      go_ret3
      obtain ⟨f1, f2, f3⟩ := hfin.out
      exact ⟨_, _, rfl, f1, by rw [f3]; exact f2, HB.out⟩
    · obtain ⟨q, hq⟩ : ∃ q, m - k = q + 1 := ⟨m - k - 1, by omega⟩
      have hae := haa (by omega)
      subst hae
      have hx := (HM.out.below HB.out).aft k (by omega)
      rw [hq] at c1 ha1
      have HQ : Hid (m - k = q + 1) := hq
      have HDN : Hid (Done L m (k + 1) 0) := done_step HD.out (by omega)
      have HNN : Hid (nf = (if k + 1 = m then (A (k + 1)).isNone else (A m).isNone)) := by
        have := HN.out
        rw [if_neg hlast] at this
        show nf = _
        by_cases e : k + 1 = m
        · rw [if_pos e, e]; exact this
        · rw [if_neg e]; exact this
      clear hq haa hlast
      by_cases hcc : 1 < ca
      · go_wp2
        go_region
        all_goals go_wp2
        all_goals go_roundw
        case rel =>
          obtain ⟨m1, m2, m3⟩ := moved (q := q) (ca := ca - 1) (o := k * 3 + 3) HM.out HB.out HC.out HQ.out (by omega) (by omega) (fun _ => rfl)
          exact ⟨k + 1, 0, _, _, _, m1, m2, HDN.out, HNN.out, m3⟩
        case measure =>
          obtain ⟨m1, _, _⟩ := moved (q := q) (ca := ca - 1) (o := k * 3 + 3) HM.out HB.out HC.out HQ.out (by omega) (by omega) (fun _ => rfl)
          rw [aftLen_of m1, aftLen_of HC.out, HQ.out]
          omega
      · obtain rfl : ca = 1 := by omega
        obtain rfl : q = 0 := by omega
        go_wp2
        go_region
        all_goals go_wp2
        all_goals go_roundw
        case rel =>
          obtain ⟨m1, m2, m3⟩ := moved (q := 0) (ca := 0) (o := k * 3) HM.out HB.out HC.out HQ.out (by omega) (by omega) (fun h => by omega)
          exact ⟨k + 1, 0, _, _, _, m1, m2, HDN.out, HNN.out, m3⟩
        case measure =>
          obtain ⟨m1, _, _⟩ := moved (q := 0) (ca := 0) (o := k * 3) HM.out HB.out HC.out HQ.out (by omega) (by omega) (fun h => by omega)
          rw [aftLen_of m1, aftLen_of HC.out, HQ.out]
          omega
end Go.Proofs.Qxb6602753a
