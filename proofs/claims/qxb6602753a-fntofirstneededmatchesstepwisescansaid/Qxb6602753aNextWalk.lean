/-
  THE CONTRACT OF (*historyCursor).next (34).
-/
import Derived.Test.Qxb6602753aCursor
import Derived.Test.Qxb6602753aUvWalk
import Derived.RegionTactic
import Derived.BigRegion
import Derived.Deep.QuietTactic
import Derived.BigQuiet
namespace Go.Proofs.Qxb6602753a
open Go.RowKit Go.ChangeShapes Go.WideShapes Go.ChangeAt
open Uv

/-- How many chunks the cursor in block c has ahead of it: the loop's measure. -/
def aftLen (w : World) (c : Nat) : Nat := match w.cell? ⟨c, 1, none⟩ with | some (.slice _ n _) => n | _ => 0

theorem heap_setCell_self {w : World} {c i : Nat} {cs : Array Value} {t : TypeId} {fr : Nat × Nat} (h : w.heap[c]? = some (.cells cs t fr)) (u : Value) : (w.setCell ⟨c, i, none⟩ u).heap[c]? = some (.cells (cs.setIfInBounds i u) t fr) := by
  simp [World.setCell, Array.getElem?_modify, h]

theorem cur_set0 {w : World} {c : Nat} {vr va : Value} {ts : Int} (h : Cur w c vr va ts) (x : Value) : Cur (w.setCell ⟨c, 0, none⟩ x) c x va ts := by
  have := heap_setCell_self (i := 0) h x
  simpa [Cur] using this
theorem cur_set1 {w : World} {c : Nat} {vr va : Value} {ts : Int} (h : Cur w c vr va ts) (x : Value) : Cur (w.setCell ⟨c, 1, none⟩ x) c vr x ts := by
  have := heap_setCell_self (i := 1) h x
  simpa [Cur] using this
theorem cur_set2 {w : World} {c : Nat} {vr va : Value} {ts : Int} (h : Cur w c vr va ts) (x : Int) : Cur (w.setCell ⟨c, 2, none⟩ (.int .i64 x)) c vr va x := by
  have := heap_setCell_self (i := 2) h (.int .i64 x)
  simpa [Cur] using this
theorem cur_drew {w : World} {c : Nat} {vr va : Value} {ts : Int} (h : Cur w c vr va ts) : Cur w.drew c vr va ts := h

/-- The cursor moves on to the next piece. -/
theorem moved {w wr : World} {N ga c m k q ca o : Nat} {A : Nat → Option Addr} {L : Nat → Nat} {B : Nat → Nat → Int} {vr va : Value} {ts : Int} (hm : Mem w N ga c m A L B) (hb : Below c w wr) (hc : Cur wr c vr va ts)
    (hq : m - k = q + 1) (hca : q ≤ ca) (hca2 : ca ≤ 2000000) (ho : 0 < q → o = k * 3 + 3) :
    Cur ((wr.setCell ⟨c, 0, none⟩ (.slice (A (k + 1)) (L (k + 1)) (L (k + 1)))).setCell ⟨c, 1, none⟩ (.slice (some ⟨ga, o, none⟩) q ca)).drew c (.slice (A (k + 1)) (L (k + 1)) (L (k + 1))) (.slice (some ⟨ga, o, none⟩) q ca) ts ∧
    Rep ((wr.setCell ⟨c, 0, none⟩ (.slice (A (k + 1)) (L (k + 1)) (L (k + 1)))).setCell ⟨c, 1, none⟩ (.slice (some ⟨ga, o, none⟩) q ca)).drew N ga m L B (.slice (A (k + 1)) (L (k + 1)) (L (k + 1))) (.slice (some ⟨ga, o, none⟩) q ca) (k + 1) 0 (A (k + 1)).isNone ∧
    Below c w ((wr.setCell ⟨c, 0, none⟩ (.slice (A (k + 1)) (L (k + 1)) (L (k + 1)))).setCell ⟨c, 1, none⟩ (.slice (some ⟨ga, o, none⟩) q ca)).drew := by
  have hB : Below c w ((wr.setCell ⟨c, 0, none⟩ (.slice (A (k + 1)) (L (k + 1)) (L (k + 1)))).setCell ⟨c, 1, none⟩ (.slice (some ⟨ga, o, none⟩) q ca)).drew :=
    ((hb.setCell (Nat.le_refl _) _).setCell (Nat.le_refl _) _).drew
  have hl := hm.len (k + 1) (by omega)
  refine ⟨cur_drew (cur_set1 (cur_set0 hc _) _), ⟨⟨A (k + 1), L (k + 1), rfl, by omega, by omega, ?_, rfl⟩, ⟨some ⟨ga, o, none⟩, ca, ?_, by omega, hca2, fun h => ?_⟩, by omega, Nat.zero_le _⟩, hB⟩
  · have := (hm.row (k + 1) (by omega)).below hB hm.nc
    simpa using this
  · rw [show m - (k + 1) = q by omega]
  · rw [ho (by omega), Nat.add_mul]

theorem skip_step {L : Nat → Nat} {B : Nat → Nat → Int} {m k p : Nat} {ts : Int} {r : Rc} (h : StepOk L B m k p ts r) (hw : k < r.k ∧ p = L k ∧ (∀ j, k < j → j < r.k → L j = 0) ∧ r.p = 0) : StepOk L B m (k + 1) 0 ts r := by
  obtain ⟨h1, h2, h3, h4⟩ := hw
  refine ⟨?_, h.km, h.pl, h.rc, h.tm⟩
  by_cases e : r.k = k + 1
  · exact .inl ⟨e, h4⟩
  · exact .inr ⟨by omega, (h3 (k + 1) (by omega) (by omega)).symm, fun j g1 g2 => h3 j (by omega) g2, h4⟩

theorem aftLen_of {w : World} {c : Nat} {vr : Value} {a : Option Addr} {n cc : Nat} {ts : Int} (h : Cur w c vr (.slice a n cc) ts) : aftLen w c = n := by
  unfold aftLen
  rw [(cur_cells h).2.1]

/-- What a cursor that stands ahead of a record shows: its rest in memory, and what the two reads of a varint give. -/
structure View (wr : World) (N : Nat) (L : Nat → Nat) (B : Nat → Nat → Int) (k p : Nat) (r : Rc) (vr : Value) (b off lr cr s1 s2 : Nat) : Prop where
  fvr : vr = .slice (some ⟨b, off, none⟩) lr cr
  flr : lr = L k - p
  fpl : p ≤ L k
  fcr : lr ≤ cr ∧ cr ≤ 2000000
  flm : lr ≤ 1048576
  fbN : b < N
  frk : r.k = k
  fcells : ∀ i, i < lr → wr.cell? ⟨b, off + i, none⟩ = some (.int .u8 (B k (p + i)))
  fbds : ∀ i, i < lr → 0 ≤ B k (p + i) ∧ B k (p + i) < 256
  fs2 : p + s2 = r.s
  ffit : s2 + r.n ≤ lr
  fone : Calls Try.prog 31 #[.slice (some ⟨b, off, none⟩) lr cr, .int .i64 0] wr fun e w' => e = .returned (.tuple #[.int .u64 r.d, .int .i64 (s1 : Int)]) ∧ w' = wr
  ftwo : ∀ I : Int, I = (s1 : Int) → Calls Try.prog 31 #[.slice (some ⟨b, off, none⟩) lr cr, .int .i64 I] wr fun e w' => e = .returned (.tuple #[.int .u64 (r.n : Int), .int .i64 (s2 : Int)]) ∧ w' = wr

theorem view {w wr : World} {N ga c m k p : Nat} {nl : Bool} {A : Nat → Option Addr} {L : Nat → Nat} {B : Nat → Nat → Int} {vr va : Value} {ts : Int} {r : Rc} (hm : Mem w N ga c m A L B) (hr : Rep wr N ga m L B vr va k p nl) (hs : StepOk L B m k p ts r) (hz : L k - p ≠ 0) :
    ∃ b off lr cr s1 s2, View wr N L B k p r vr b off lr cr s1 s2 ∧ s1 ≤ 1048576 ∧ s2 ≤ 1048576 := by
  obtain ⟨ar, cr, hvr, hr1, hr2, hrow, hnl⟩ := hr.rest
  obtain ⟨hk, hp⟩ : r.k = k ∧ r.p = p := by
    rcases hs.way with h | ⟨_, h, _⟩
    · exact h
    · omega
  obtain ⟨n1, n2, v1, hd, v2, hn, hse, hle⟩ := hs.rc
  rw [hk, hp] at v1 hd v2 hn
  rw [hk] at hle
  rw [hp] at hse
  have hpl := hr.pl
  have hlk := hm.len k hr.km
  obtain ⟨b, off, har, hbN, hcells⟩ := hrow.2 (by omega)
  subst har
  have i1 := v1.inn
  have i2 := v2.inn
  refine ⟨b, off, L k - p, cr, n1 + 1, n1 + 1 + n2 + 1, ⟨hvr, rfl, hpl, ⟨hr1, hr2⟩, by omega, hbN, hk, hcells, hrow.1, by omega, by omega, ?_, ?_⟩, by omega, by omega⟩
  · have := uv31 b off (L k - p) cr 0 n1 0 (fun i => B k (p + i)) wr rfl (by omega) hcells hrow.1 (by omega) (fun j hj => by rw [Nat.zero_add]; exact v1.mid j hj) (by rw [Nat.zero_add]; exact v1.stop)
    rw [uv_shift, Nat.add_zero, ← hd, Nat.zero_add] at this
    exact this
  · intro I hI
    have := uv31 b off (L k - p) cr (n1 + 1) n2 I (fun i => B k (p + i)) wr hI (by omega) hcells hrow.1 (by omega) (fun j hj => by rw [← Nat.add_assoc, ← Nat.add_assoc]; exact v2.mid j hj) (by rw [← Nat.add_assoc, ← Nat.add_assoc]; exact v2.stop)
    rw [uv_shift, ← Nat.add_assoc, ← hn] at this
    exact this

/-- What next leaves where a version is ahead. -/
def NextOk (w : World) (N ga c m : Nat) (L : Nat → Nat) (B : Nat → Nat → Int) (r : Rc) (e : Ending) (w' : World) : Prop :=
  ∃ vr va ab cb, e = .returned (.tuple #[.int .i64 r.ts, .slice ab r.n cb, .bool true]) ∧ RowN w' N ab r.n (fun i => B r.k (r.s + i)) ∧ Cur w' c vr va r.ts ∧ Rep w' N ga m L B vr va r.k (r.s + r.n) false ∧ Below c w w'

theorem next_fin {w w1 : World} {N ga c m k p b off lr cr s1 s2 lb cb le ce : Nat} {nl : Bool} {A : Nat → Option Addr} {L : Nat → Nat} {B : Nat → Nat → Int} {vr va : Value} {ts : Int} {r : Rc} {x y : Addr}
    (hm : Mem w N ga c m A L B) (hb : Below c w w1) (V : View w1 N L B k p r vr b off lr cr s1 s2) (hs : StepOk L B m k p ts r) (hc : Cur w1 c vr va ts) (hr : Rep w1 N ga m L B vr va k p nl)
    (hlb : lb = r.n) (hx : 0 < r.n → x = ⟨b, off + s2, none⟩) (hle : le = lr - (s2 + r.n)) (hce : le ≤ ce ∧ ce ≤ 2000000) (hy : 0 < le → y = ⟨b, off + (s2 + r.n), none⟩) :
    NextOk w N ga c m L B r (.returned (.tuple #[.int .i64 (wrap64 (ts + wrap64 r.d)), .slice (some x) lb cb, .bool true])) ((w1.setCell ⟨c, 0, none⟩ (.slice (some y) le ce)).setCell ⟨c, 2, none⟩ (.int .i64 (wrap64 (ts + wrap64 r.d)))).drew := by
  have ht : wrap64 (ts + wrap64 r.d) = r.ts := hs.tm.symm
  have hB1 : Below c w1 ((w1.setCell ⟨c, 0, none⟩ (.slice (some y) le ce)).setCell ⟨c, 2, none⟩ (.int .i64 (wrap64 (ts + wrap64 r.d)))).drew := (((Below.refl c w1).setCell (p := ⟨c, 0, none⟩) (Nat.le_refl c) _).setCell (p := ⟨c, 2, none⟩) (Nat.le_refl c) _).drew
  have hcur := cur_drew (cur_set2 (cur_set0 hc (.slice (some y) le ce)) (wrap64 (ts + wrap64 r.d)))
  have hfit := V.ffit
  have hs2 := V.fs2
  have hlr := V.flr
  have hrk := V.frk
  have hpl := V.fpl
  rw [ht] at hcur hB1 ⊢
  refine ⟨_, _, some x, cb, by rw [hlb], ?_, hcur, ⟨⟨some y, ce, ?_, ?_, hce.2, ?_, rfl⟩, ?_, ?_, ?_⟩, hb.trans hB1⟩
  · refine RowN.below (w := w1) ⟨fun i hi => ?_, fun h => ⟨b, off + s2, by rw [hx h], V.fbN, fun i hi => ?_⟩⟩ hB1 hm.nc
    · show 0 ≤ B r.k (r.s + i) ∧ B r.k (r.s + i) < 256
      rw [hrk, show r.s + i = p + (s2 + i) by omega]; exact V.fbds (s2 + i) (by omega)
    · show w1.cell? ⟨b, off + s2 + i, none⟩ = some (.int .u8 (B r.k (r.s + i)))
      rw [hrk, show r.s + i = p + (s2 + i) by omega, Nat.add_assoc]; exact V.fcells (s2 + i) (by omega)
  · rw [hrk, show L k - (r.s + r.n) = le by omega]
  · rw [hrk]; omega
  · rw [hrk, show L k - (r.s + r.n) = le by omega]
    refine RowN.below (w := w1) ⟨fun i hi => ?_, fun h => ⟨b, off + (s2 + r.n), by rw [hy h], V.fbN, fun i hi => ?_⟩⟩ hB1 hm.nc
    · show 0 ≤ B k (r.s + r.n + i) ∧ B k (r.s + r.n + i) < 256
      rw [show r.s + r.n + i = p + (s2 + r.n + i) by omega]; exact V.fbds _ (by omega)
    · show w1.cell? ⟨b, off + (s2 + r.n) + i, none⟩ = some (.int .u8 (B k (r.s + r.n + i)))
      rw [show r.s + r.n + i = p + (s2 + r.n + i) by omega, Nat.add_assoc off]; exact V.fcells _ (by omega)
  · rw [hrk]; exact hr.after
  · rw [hrk]; exact hr.km
  · rw [hrk]; omega

set_option maxHeartbeats 1600000 in
theorem n34_ok (N ga c m k p : Nat) (nl : Bool) (A : Nat → Option Addr) (L : Nat → Nat) (B : Nat → Nat → Int) (vr va : Value) (ts : Int) (r : Rc) (w : World)
    (hmem : Mem w N ga c m A L B) (hcur : Cur w c vr va ts) (hrep : Rep w N ga m L B vr va k p nl) (hstep : StepOk L B m k p ts r) :
    Calls Try.prog 34 #[.pointer (some ⟨c, 0, none⟩)] w fun e w' => NextOk w N ga c m L B r e w' := by
  have HM : Hid (Mem w N ga c m A L B) := hmem
  have HC : Hid (Cur w c vr va ts) := hcur
  have HR : Hid (Rep w N ga m L B vr va k p nl) := hrep
  have HS : Hid (StepOk L B m k p ts r) := hstep
  clear hmem hcur hrep hstep
  go_enter Try.func34, Try.ntmps34
  go_wp2
  go_loopw [] (fun wr => ∃ (k p : Nat) (vr va : Value) (nl : Bool), Cur wr c vr va ts ∧ Rep wr N ga m L B vr va k p nl ∧ StepOk L B m k p ts r ∧ Below c w wr) (fun wr => aftLen wr c)
  case atStart => exact ⟨k, p, vr, va, nl, HC.out, HR.out, HS.out, Below.refl _ _⟩
  case round =>
    clear HC HR HS
    obtain ⟨k, p, vr, va, nl, hc, hr, hs, hb⟩ := hrel
    obtain ⟨ar, cr, rfl, hr1, hr2, hrow, hnl⟩ := hr.rest
    obtain ⟨aa, ca, rfl, ha1, ha2, haa⟩ := hr.after
    obtain ⟨c0, c1, c2, cf, clt⟩ := cur_cells hc
    have cf0 := cf 0
    have cf1 := cf 1
    have cf2 := cf 2
    have HC : Hid (Cur wr c (.slice ar (L k - p) cr) (.slice aa (m - k) ca) ts) := hc
    have HR : Hid (Rep wr N ga m L B (.slice ar (L k - p) cr) (.slice aa (m - k) ca) k p nl) := hr
    have HS : Hid (StepOk L B m k p ts r) := hs
    have HB : Hid (Below c w wr) := hb
    have HW : Hid (RowN wr N ar (L k - p) (fun i => B k (p + i))) := hrow
    clear hc hr hs hb cf hrow hnl
    by_cases hz : L k - p = 0
    · have hway : k < r.k ∧ p = L k ∧ (∀ j, k < j → j < r.k → L j = 0) ∧ r.p = 0 := by
        rcases HS.out.way with ⟨h1, h2⟩ | h
        · have := HS.out.pl; rw [h1, h2] at this; omega
        · exact h
      have hkm := HS.out.km
      obtain ⟨q, hq⟩ : ∃ q, m - k = q + 1 := ⟨m - k - 1, by omega⟩
      have hae := haa (by omega)
      subst hae
      have hx := (HM.out.below HB.out).aft k (by omega)
      rw [hz] at c0
      rw [hq] at c1 ha1
      have HQ : Hid (m - k = q + 1) := hq
      have HWY : Hid (k < r.k ∧ p = L k ∧ (∀ j, k < j → j < r.k → L j = 0) ∧ r.p = 0) := hway
      clear hq hz hway haa
      by_cases hcc : 1 < ca
      · go_wp2
        go_region
        all_goals go_wp2
        all_goals go_roundw
        case rel => 
          obtain ⟨m1, m2, m3⟩ := moved (q := q) (ca := ca - 1) (o := k * 3 + 3) HM.out HB.out HC.out HQ.out (by omega) (by omega) (fun _ => rfl)
          exact ⟨k + 1, 0, _, _, _, m1, m2, skip_step HS.out HWY.out, m3⟩
        case measure =>
          obtain ⟨m1, _, _⟩ := moved (q := q) (ca := ca - 1) (o := k * 3 + 3) HM.out HB.out HC.out HQ.out (by omega) (by omega) (fun _ => rfl)
          rw [aftLen_of m1, aftLen_of HC.out, HQ.out]
          omega
      · obtain rfl : ca = 1 := by omega
        obtain rfl : q = 0 := by omega
        go_wp2
        go_region
        all_goals go_wp2
        all_goals go_roundw
        case rel =>
          obtain ⟨m1, m2, m3⟩ := moved (q := 0) (ca := 0) (o := k * 3) HM.out HB.out HC.out HQ.out (by omega) (by omega) (fun h => by omega)
          exact ⟨k + 1, 0, _, _, _, m1, m2, skip_step HS.out HWY.out, m3⟩
        case measure =>
          obtain ⟨m1, _, _⟩ := moved (q := 0) (ca := 0) (o := k * 3) HM.out HB.out HC.out HQ.out (by omega) (by omega) (fun h => by omega)
          rw [aftLen_of m1, aftLen_of HC.out, HQ.out]
          omega
    · obtain ⟨b, off, lr, cr', s1, s2, V, hs1, hs2⟩ := view HM.out HR.out HS.out hz
      have hv := V.fvr
      simp only [Value.slice.injEq] at hv
      obtain ⟨rfl, hlr, rfl⟩ := hv
      rw [hlr] at c0
      have HV : Hid (View wr N L B k p r (.slice (some ⟨b, off, none⟩) (L k - p) cr) b off lr cr s1 s2) := V
      have hcr := V.fcr
      have hlm := V.flm
      have hfit := V.ffit
      have hz' : 0 < lr := by omega
      obtain ⟨n, hn⟩ : ∃ n, n = r.n := ⟨_, rfl⟩
      rw [← hn] at hfit
      have two : ∀ I : Int, I = (s1 : Int) → Hid (Calls Try.prog 31 #[.slice (some ⟨b, off, none⟩) lr cr, .int .i64 I] wr fun e w' => e = .returned (.tuple #[.int .u64 (n : Int), .int .i64 (s2 : Int)]) ∧ w' = wr) := by
        intro I hI; rw [hn]; exact V.ftwo I hI
      have HN : Hid (n = r.n) := hn
      have hi1 : (s1 : Int) ≤ 1048576 := by omega
      clear V hn hz hlr hr1 haa ha1 HW
      go_wp2_with fail
      refine HV.out.fone.mono ?_
      rintro e w1 ⟨rfl, rfl⟩
      go_wp2_with fail
      refine (two _ rfl).out.mono ?_
      rintro e w1 ⟨rfl, rfl⟩
      clear two
      by_cases hend : s2 + n < cr
      · have hend1 : (s2 : Int) + n < (cr : Int) := by omega
        go_wp2
        go_region
        go_wp2
        go_ret3
        exact next_fin HM.out HB.out HV.out HS.out HC.out HR.out (by rw [← HN.out]; omega) (fun _ => rfl) (by rw [← HN.out]) (by omega) (fun _ => by rw [← HN.out])
      · by_cases hmid : s2 < cr
        · have hmid1 : (s2 : Int) < (cr : Int) := by omega
          obtain rfl : cr = s2 + n := by omega
          go_wp2
          go_region
          go_wp2
          go_ret3
          exact next_fin HM.out HB.out HV.out HS.out HC.out HR.out (by rw [← HN.out]; omega) (fun _ => rfl) (by rw [← HN.out]; omega) (by omega) (fun h => by omega)
        · obtain rfl : n = 0 := by omega
          obtain rfl : cr = s2 := by omega
          go_wp2
          go_region
          go_wp2
          go_ret3
          exact next_fin HM.out HB.out HV.out HS.out HC.out HR.out (by rw [← HN.out]) (fun h => by rw [← HN.out] at h; omega) (by rw [← HN.out]; omega) (by omega) (fun h => by omega)
end Go.Proofs.Qxb6602753a
