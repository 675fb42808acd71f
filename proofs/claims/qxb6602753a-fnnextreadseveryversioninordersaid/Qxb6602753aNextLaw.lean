/-
  THE WALK OF FnNextReadsEveryVersionInOrder (6).
-/
import Derived.Test.Qxb6602753aStates
import Derived.Test.Qxb6602753aFitsWalk
namespace Go.Proofs.Qxb6602753a.fnNextReadsEveryVersionInOrder
open Go.RowKit
open Uv

theorem nneq22 : ∀ (w : World) (a : Option Addr) (n c n' c' : Nat), (binOp .neq 22 (.slice a n c) (.slice none n' c')).run Try.prog w = .ok (.bool (!a.isNone)) w := fun w a n c n' c' => run_neq_slice_nil_any w _ _ a n c n' c' Try.underlying22

set_option maxHeartbeats 3200000 in
theorem walk (a1 : Option Addr) (m c1 : Nat) (A : Nat → Option Addr) (L C : Nat → Nat) (B : Nat → Nat → Int) (prev : Int) (w : World) (hin : HIn w a1 m A L C B) (_hp : (Lit.int .i64 prev).wf = true) :
    Calls Try.prog 6 #[.slice (A 0) (L 0) (C 0), .slice a1 m c1, .int .i64 prev] w fun e w' => e = .returned (.bool true) ∧ Below w.heap.size w w' := by
  have HI : Hid (HIn w a1 m A L C B) := hin
  clear hin
  go_enter Try.func6, Try.ntmps6
  go_wp2_with fail
  refine (z16 a1 m c1 A L C B prev _ HI.out).mono ?_
  rintro e w1 ⟨⟨bb, rfl⟩, rfl⟩
  cases bb
  · go_wp2
    go_ret
    exact ⟨rfl, Below.refl _ _⟩
  go_wp2_with fail
  refine (f17 a1 m c1 A L C B _ HI.out).mono ?_
  rintro e w2 ⟨⟨bb, rfl, hfit⟩, rfl⟩
  cases bb
  · go_wp2
    go_ret
    exact ⟨rfl, Below.refl _ _⟩
  obtain ⟨hm, htot⟩ := hfit rfl
  have HT : Hid (tot L (m + 1) ≤ 1048576) := htot
  clear hfit htot
  go_wp2_with fail
  refine (h18 a1 m c1 A L C B prev _ HI.out hm HT.out).mono ?_
  rintro e w3 (⟨rfl, hb3⟩ | ⟨rs, v, hst, hdone, rfl⟩)
  · have HB3 : Hid (Below w2.heap.size w2 w3) := hb3
    clear hb3
    go_wp2
    go_ret
    exact ⟨rfl, HB3.out⟩
  obtain ⟨av, cv, g, hv, hvg, hvers⟩ := vers_of hst
  have HL : Hid (∀ j, j ≤ m → L j ≤ 1048576) := len_of_tot HT.out
  have HB3 : Hid (Below w2.heap.size w2 w3) := hst.bel
  have HI3 : Hid (HIn w3 a1 m A L C B) := HI.out.below hst.bel
  rw [hv]
  have HH : Hid (Hist L B m prev rs) := hst.hist
  have HBod : Hid (∀ r, r ∈ rs → Row8 w2 r.a r.n (fun j => B r.k (r.s + j)) ∧ r.n ≤ r.c) := hst.bod
  have HD : Hid (Done L m (endK rs) (endP rs)) := hdone
  have HG : Hid (0 < rs.length → av = some ⟨g, 0, none⟩ ∧ g < w3.heap.size) := hvg
  have HV : Hid (Vers w3 g rs) := hvers
  have hlen : rs.length ≤ 1048576 := by
    have h0 := hist_len hst.hist
    have h1 := endK_le hst.hist
    have h2 := endP_le hst.hist
    have h3 : tot L (endK rs + 1) ≤ tot L (m + 1) := tot_mono L (by omega)
    rw [tot] at h3
    have := HT.out
    omega
  clear hst hdone hv hvg hvers
  go_wp2_with fail
  refine (c19 _ _ _ (B 0) _ (HL.out 0 (Nat.zero_le _)) (HI3.out.row 0 (Nat.zero_le _))).mono ?_
  rintro e w4 ⟨a0', rfl, hn0, hr0, hx0, hb4⟩
  have HI4 : Hid (HIn w4 a1 m A L C B) := HI3.out.below hb4
  have HR0 : Hid (RowN w4 w4.heap.size a0' (L 0) (B 0)) := hr0
  have HB4 : Hid (Below w3.heap.size w3 w4) := hb4
  clear hn0 hr0 hx0 hb4
  go_wp2_with fail
  refine (c20 _ _ _ A L C B _ HI4.out hm HL.out).mono ?_
  rintro e w5 ⟨a1', A', rfl, hn1, hr1, ht1, hb5⟩
  have HI5 : Hid (HIn w5 a1' m (fun j => if j = 0 then a0' else A' j) L L B) := clones_in hm HL.out HR0.out hb5 (fun j hj => (hr1 j hj).1) ht1
  have HB5 : Hid (Below w4.heap.size w4 w5) := hb5
  clear hn1 hr1 ht1 hb5
  have HK21 : ∀ cc : Nat, Hid (Calls Try.prog 21 #[.slice a0' (L 0) (L 0), .slice a1' m cc, .int .i64 prev] w5 fun e w' => NewCur w5 m (fun j => if j = 0 then a0' else A' j) L B prev e w') := fun cc =>
    cur21 a1' m cc (fun j => if j = 0 then a0' else A' j) L B prev w5 HI5.out hm HL.out
  go_wp2_with fail
  refine (HK21 _).out.mono ?_
  rintro e w6 ⟨ga, c, vr, va, rfl, hcur, hmem, hrep, hb6⟩
  obtain ⟨AA, hAA⟩ : ∃ AA : Nat → Option Addr, AA = (fun j => if j = 0 then a0' else A' j) := ⟨_, rfl⟩
  rw [← hAA] at hmem hrep
  have HS0 : Hid (Sta w6 w5.heap.size ga c m AA L B prev rs vr va 0) := ⟨hmem, by unfold stT; rw [stL_zero]; exact hcur, by unfold stK stP stN; rw [if_pos (Nat.zero_le _), if_pos (Nat.zero_le _), if_pos (Nat.zero_le _), if_pos rfl, stL_zero]; exact hrep⟩
  have hNc := hmem.nc
  have HBa : Hid (Below w2.heap.size w2 w6) := by
    have s3 := HB3.out.size
    have s4 := HB4.out.size
    have s5 := HB5.out.size
    exact ((HB3.out.trans (HB4.out.mono (by omega))).trans (HB5.out.mono (by omega))).trans (hb6.mono (by omega))
  have HBv : Hid (Below w3.heap.size w3 w6) := by
    have s4 := HB4.out.size
    have s5 := HB5.out.size
    exact (HB4.out.trans (HB5.out.mono (by omega))).trans (hb6.mono (by omega))
  have hsz : w2.heap.size ≤ w3.heap.size ∧ w3.heap.size ≤ w5.heap.size := by
    have s3 := HB3.out.size
    have s4 := HB4.out.size
    have s5 := HB5.out.size
    omega
  have HV6 : Hid (0 < rs.length → Vers w6 g rs) := fun h => HV.out.below HBv.out (HG.out h).2
  clear hcur hmem hrep hb6 HB3 HB4 HB5 HR0 HK21 HI HI3 HI4 HI5 hAA HV HBv
  obtain ⟨N, hN⟩ : ∃ N, N = w5.heap.size := ⟨_, rfl⟩
  rw [← hN] at HS0 hNc hsz
  obtain ⟨M, hM⟩ : ∃ M, M = rs.length := ⟨_, rfl⟩
  rw [← hM] at hlen ⊢
  have HM : Hid (M = rs.length) := hM
  clear hN hM
  go_wp2
  go_loopw [11] (fun vt wr => ∃ (t : Nat) (vr va : Value), t ≤ M ∧ vt = .int .i64 (t : Int) ∧ Sta wr N ga c m AA L B prev rs vr va t ∧ Below c w6 wr) (fun vt _ => M - (intOf vt).toNat)
  case atStart => exact ⟨0, vr, va, Nat.zero_le _, rfl, HS0.out, Below.refl _ _⟩
  case round =>
    clear HS0
    obtain ⟨t, vr, va, ht, rfl, hs, hb⟩ := hrel
    have HS : Hid (Sta wr N ga c m AA L B prev rs vr va t) := hs
    have HB : Hid (Below c w6 wr) := hb
    clear hs hb
    by_cases hlt : t < M
    · obtain ⟨r, hr, hK⟩ := step_a HH.out HS.out (by rw [← HM.out]; exact hlt) 22 (.inl rfl)
      have HK : Hid (Calls Try.prog 22 #[.pointer (some ⟨c, 0, none⟩)] wr fun e w' => StepA wr N ga c m AA L B prev rs t r e w') := hK
      have HRr : Hid (rs.reverse[t]? = some r) := hr
      obtain ⟨hav, hg⟩ := HG.out (by rw [← HM.out]; omega)
      subst hav
      clear hK hr
      go_wp2_with fail
      refine HK.out.mono ?_
      rintro e w7 ⟨vr', va', ab, cb, rfl, hrow, hsta, htt, hb7⟩
      have hver := (((HV6.out (by rw [← HM.out]; omega)).below HB.out (by omega)).below hb7 (by omega)) t r HRr.out
      obtain ⟨hv1, hv2⟩ := hver
      have HROW : Hid (RowN w7 N ab r.n (fun i => B r.k (r.s + i))) := hrow
      have HSTA : Hid (Sta w7 N ga c m AA L B prev rs vr' va' (t + 1)) := hsta
      have HTT : Hid (stT prev rs (t + 1) = r.ts) := htt
      have HB7 : Hid (Below c wr w7) := hb7
      clear hrow hsta htt hb7 HK
      have hmem := mem_of_rev HRr.out
      have hrn : r.n ≤ 2000000 := by
        obtain ⟨h1, h2⟩ := hist_n HH.out r hmem
        have := HL.out r.k h1
        omega
      have HROW2 : Hid (RowN w7 w2.heap.size r.a r.n (fun i => B r.k (r.s + i))) :=
        ((RowN.below (rowN_of (HBod.out r hmem).1) HBa.out (Nat.le_refl _)).below HB.out (by omega)).below HB7.out (by omega)
      clear hmem
      go_wp2_with fail
      refine (eq23 _ _ _ _ _ N w2.heap.size _ _ hrn HROW.out HROW2.out).mono ?_
      rintro e w8 ⟨rfl, nq, rfl⟩
      obtain ⟨va1, vc1, va2, vc2, hvr, hva⟩ := sta_vals HSTA.out
      have hcur := (HSTA.out.drewN nq).cur
      rw [hvr, hva, HTT.out] at hcur
      have HCUR : Hid (Cur (w7.drewN nq) c (.slice va1 (L (stK m rs (t + 1)) - stP L m rs (t + 1)) vc1) (.slice va2 (m - stK m rs (t + 1)) vc2) r.ts) := hcur
      clear hcur hvr hva
      go_wp2_with fail
      refine (place24 _ _ _ _ _ _ _ _ _ (by omega) HCUR.out).mono ?_
      rintro e w8 ⟨rfl, nq2, rfl⟩
      have HFin : Hid (Sta (w7.drewN (nq + nq2)) N ga c m AA L B prev rs vr' va' (t + 1) ∧ Below c w6 (w7.drewN (nq + nq2))) := ⟨HSTA.out.drewN (nq + nq2), below_drewN (HB.out.trans HB7.out) (nq + nq2)⟩
      clear HCUR
      go_wp2
      go_roundw
      case rel => exact ⟨t + 1, vr', va', by omega, by go_num, HFin.out.1, HFin.out.2⟩
      case measure => simp [intOf]; omega
    · obtain rfl : M = t := by omega
      have hst2 := HS.out
      have HS1 : Hid (Sta wr N ga c m AA L B prev rs vr va rs.length) := by have := HS.out; rw [HM.out] at this; exact this
      clear HS
      obtain ⟨wo, rfl⟩ : ∃ wo : World, wo = wr := ⟨_, rfl⟩
      go_wp2
      go_loopw [18] (fun vt wr => ∃ (i t : Nat) (vr va : Value), i ≤ 2 ∧ vt = .int .i64 (i : Int) ∧ (t = rs.length ∨ t = rs.length + 1) ∧ Sta wr N ga c m AA L B prev rs vr va t ∧ Below c w6 wr) (fun vt _ => 2 - (intOf vt).toNat)
      case atStart => exact ⟨0, _, vr, va, by omega, rfl, .inl rfl, HS1.out, HB.out⟩
      case round =>
        clear HS1 HB hst2
        obtain ⟨i, t, vr, va, hi, rfl, htt, hs, hb⟩ := hrel
        have HS : Hid (Sta wr N ga c m AA L B prev rs vr va t) := hs
        have HB : Hid (Below c w6 wr) := hb
        have HTT : Hid (t = rs.length ∨ t = rs.length + 1) := htt
        clear hs hb htt
        by_cases hlt2 : i < 2
        · have hnn := nneq22
          have HK : Hid (Calls Try.prog 22 #[.pointer (some ⟨c, 0, none⟩)] wr fun e w' => StepZ wr N ga c m AA L B prev rs e w') := step_z HD.out HS.out HTT.out 22 (.inl rfl)
          go_wp2_with fail
          refine HK.out.mono ?_
          rintro e w7 ⟨vr', va', rfl, hsta, hb7⟩
          obtain ⟨va1, vc1, va2, vc2, hvr, hva⟩ := sta_vals hsta
          have hcur := hsta.cur
          have k1 : stK m rs (rs.length + 1) = m := by unfold stK; rw [if_neg (by omega)]
          have k2 : stP L m rs (rs.length + 1) = L m := by unfold stP; rw [if_neg (by omega)]
          have k3 : stT prev rs (rs.length + 1) = endT prev rs := by unfold stT; rw [stL_more rs (by omega)]
          rw [hvr, hva, k1, k2, k3, Nat.sub_self, Nat.sub_self] at hcur
          have HCUR : Hid (Cur w7 c (.slice va1 0 vc1) (.slice va2 0 vc2) (endT prev rs)) := hcur
          have HSTA : Hid (Sta w7 N ga c m AA L B prev rs vr' va' (rs.length + 1)) := hsta
          have HB7 : Hid (Below c wr w7) := hb7
          clear hcur hvr hva k1 k2 k3 hsta hb7 HK
          go_wp2_with fail
          refine (place24 _ _ _ _ _ _ _ _ _ (by omega) HCUR.out).mono ?_
          rintro e w8 ⟨rfl, nq2, rfl⟩
          have HFin : Hid (Sta (w7.drewN nq2) N ga c m AA L B prev rs vr' va' (rs.length + 1) ∧ Below c w6 (w7.drewN nq2)) := ⟨HSTA.out.drewN nq2, below_drewN (HB.out.trans HB7.out) nq2⟩
          clear HCUR
          go_wp2
          go_roundw
          case rel => exact ⟨i + 1, rs.length + 1, vr', va', by omega, by go_num, .inr rfl, HFin.out.1, HFin.out.2⟩
          case measure => simp [intOf]; omega
        · go_wp2
          go_ret
          exact ⟨rfl, HBa.out.trans (HB.out.mono (by omega))⟩
end Go.Proofs.Qxb6602753a.fnNextReadsEveryVersionInOrder
