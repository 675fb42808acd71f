/-
  THE WALK OF FnToFirstNeededMatchesStepwiseScan (7).
-/
import Derived.Test.Qxb6602753aFinView
import Derived.Test.Qxb6602753aFitsWalk
import Derived.Test.Qxb6602753aKeepsPlain
import Derived.Deep.DeepCutAuto
import Derived.Deep.CutBlock
namespace Go.Proofs.Qxb6602753a.fnToFirstNeededMatchesStepwiseScan
open Go.RowKit
open Uv

set_option maxRecDepth 100000 in
set_option maxHeartbeats 4000000 in
theorem walk (a1 : Option Addr) (m c1 : Nat) (A : Nat → Option Addr) (L C : Nat → Nat) (B : Nat → Nat → Int) (prev hor new : Int) (w : World) (hin : HIn w a1 m A L C B) (_h1 : (Lit.int .i64 prev).wf = true) (_h2 : (Lit.int .i64 hor).wf = true) (_h3 : (Lit.int .i64 new).wf = true) :
    Calls Try.prog 7 #[.slice (A 0) (L 0) (C 0), .slice a1 m c1, .int .i64 prev, .int .i64 hor, .int .i64 new] w fun e w' => e = .returned (.bool true) ∧ Below w.heap.size w w' := by
  have HI : Hid (HIn w a1 m A L C B) := hin
  clear hin
  go_enter Try.func7, Try.ntmps7
  go_wp2_with fail
  refine (z25 a1 m c1 A L C B prev hor new _ HI.out).mono ?_
  rintro e w1 ⟨⟨bb, rfl⟩, rfl⟩
  cases bb
  · go_wp2
    go_ret
    exact ⟨rfl, Below.refl _ _⟩
  go_wp2_with fail
  refine (f17 a1 m c1 A L C B _ HI.out).mono ?_
  rintro e w2 ⟨⟨bb, rfl, hfit⟩, rfl⟩
  cases bb
  · go_wp2
    go_ret
    exact ⟨rfl, Below.refl _ _⟩
  obtain ⟨hm, htot⟩ := hfit rfl
  have HT : Hid (tot L (m + 1) ≤ 1048576) := htot
  clear hfit htot
  go_wp2_with fail
  refine (h18 a1 m c1 A L C B prev _ HI.out hm HT.out).mono ?_
  rintro e w3 (⟨rfl, hb3⟩ | ⟨rs, v, hst, hdone, rfl⟩)
  · have HB3 : Hid (Below w2.heap.size w2 w3) := hb3
    clear hb3
    go_wp2
    go_ret
    exact ⟨rfl, HB3.out⟩
  obtain ⟨av, cv, g, hv, hvg, hvers⟩ := vers_of hst
  have HL : Hid (∀ j, j ≤ m → L j ≤ 1048576) := len_of_tot HT.out
  have HB3 : Hid (Below w2.heap.size w2 w3) := hst.bel
  have HI3 : Hid (HIn w3 a1 m A L C B) := HI.out.below hst.bel
  rw [hv]
  have HH : Hid (Hist L B m prev rs) := hst.hist
  have HD : Hid (Done L m (endK rs) (endP rs)) := hdone
  have HG : Hid (0 < rs.length → av = some ⟨g, 0, none⟩ ∧ g < w3.heap.size) := hvg
  have HV : Hid (Vers w3 g rs) := hvers
  have hlen : rs.length ≤ 1048576 := by
    have h0 := hist_len hst.hist
    have h1 := endK_le hst.hist
    have h2 := endP_le hst.hist
    have h3 : tot L (endK rs + 1) ≤ tot L (m + 1) := tot_mono L (by omega)
    rw [tot] at h3
    have := HT.out
    omega
  obtain ⟨M, hM⟩ : ∃ M, M = rs.length := ⟨_, rfl⟩
  rw [← hM] at hlen ⊢
  have HM : Hid (M = rs.length) := hM
  clear hst hdone hv hvg hvers hM
  go_wp2_with fail
  refine (c19 _ _ _ (B 0) _ (HL.out 0 (Nat.zero_le _)) (HI3.out.row 0 (Nat.zero_le _))).mono ?_
  rintro e w4 ⟨a0', rfl, hn0, hr0, hx0, hb4⟩
  have HI4 : Hid (HIn w4 a1 m A L C B) := HI3.out.below hb4
  have HR0 : Hid (RowN w4 w4.heap.size a0' (L 0) (B 0)) := hr0
  have HB4 : Hid (Below w3.heap.size w3 w4) := hb4
  clear hn0 hr0 hx0 hb4
  go_wp2_with fail
  refine (c20 _ _ _ A L C B _ HI4.out hm HL.out).mono ?_
  rintro e w5 ⟨a1', A', rfl, hn1, hr1, ht1, hb5⟩
  have HI5 : Hid (HIn w5 a1' m (fun j => if j = 0 then a0' else A' j) L L B) := clones_in hm HL.out HR0.out hb5 (fun j hj => (hr1 j hj).1) ht1
  have HB5 : Hid (Below w4.heap.size w4 w5) := hb5
  clear hn1 hr1 ht1 hb5
  obtain ⟨AA, hAA⟩ : ∃ AA : Nat → Option Addr, AA = (fun j => if j = 0 then a0' else A' j) := ⟨_, rfl⟩
  have hA0 : a0' = AA 0 := by rw [hAA]; rfl
  rw [← hAA] at HI5
  rw [hA0]
  clear hA0 hAA
  have hs35 : w2.heap.size ≤ w3.heap.size ∧ w3.heap.size ≤ w5.heap.size := by
    have s3 := HB3.out.size
    have s4 := HB4.out.size
    have s5 := HB5.out.size
    omega
  have HB25 : Hid (Below w2.heap.size w2 w5) := by
    have s4 := HB4.out.size
    exact (HB3.out.trans (HB4.out.mono (by omega))).trans (HB5.out.mono (by omega))
  have HV5 : Hid (0 < rs.length → Vers w5 g rs) := fun h => HV.out.below (HB4.out.trans (HB5.out.mono HB4.out.size)) (HG.out h).2
  clear HB3 HB4 HB5 HI HI3 HI4 HR0 HV
  obtain ⟨N, hN⟩ : ∃ N, N = w5.heap.size := ⟨_, rfl⟩
  have HROW : Hid (∀ j, j ≤ m → RowN w5 N (AA j) (L j) (B j)) := by rw [hN]; exact fun j hj => rowN_of (HI5.out.row j hj)
  -- places := make([]zzPlace, m+2)
  obtain ⟨w6, hmk, hfil, hb6⟩ := filP_make (M + 2) (PlaceOK w5 N m AA L B prev rs) (by omega) w5
  rw [show ((M + 2 : Nat) : Int) = (M : Int) + 2 by omega] at hmk
  have HF6 : Hid (FilP w6 N (M + 2) (PlaceOK w5 N m AA L B prev rs) 0) := by have h := hfil; rw [← hN] at h; exact h
  have HB6 : Hid (Below N w5 w6) := by rw [hN]; exact hb6
  have hg6 : N < w6.heap.size := HF6.out.lt
  rw [← hN] at hmk hs35
  have HI6 : Hid (HIn w6 a1' m AA L L B) := HI5.out.below hb6
  have HN : Hid (N = w5.heap.size) := hN
  clear hfil hb6 hN
  have HK21 : ∀ cc : Nat, Hid (Calls Try.prog 21 #[.slice (AA 0) (L 0) (L 0), .slice a1' m cc, .int .i64 prev] w6 fun e w' => NewCurX w6 N m AA L B prev e w') := fun cc =>
    curx N m cc a1' AA L B prev w6 (by omega) HI6.out (fun j hj => (HROW.out j hj).below HB6.out (Nat.le_refl _)) hm HL.out
  go_wp2_with fail
  refine (HK21 _).out.mono ?_
  rintro e w7 ⟨ga, c, vr, va, rfl, hcur, hmem, hrep, hb7, hc7, hga7⟩
  have HS7 : Hid (Sta w7 N ga c m AA L B prev rs vr va 0) := ⟨hmem, by unfold stT; rw [stL_zero]; exact hcur, by unfold stK stP stN; rw [if_pos (Nat.zero_le _), if_pos (Nat.zero_le _), if_pos (Nat.zero_le _), if_pos rfl, stL_zero]; exact hrep⟩
  have HF7 : Hid (FilP w7 N (M + 2) (PlaceOK w5 N m AA L B prev rs) 0) := HF6.out.more (hb7.block _ hg6)
  have HB7 : Hid (Below N w5 w7) := HB6.out.trans (hb7.mono (by omega))
  have hNc : N < c := by omega
  have HGA : Hid (0 < m → N < ga) := fun h => by have := hga7 h; omega
  obtain ⟨xa, xc, xaa, xca, hvr, hva, hpl⟩ := place_ok HS7.out HB7.out (Nat.le_refl _)
  have hcur2 := HS7.out.cur
  rw [hvr, hva] at hcur2
  have HCUR : Hid (Cur w7 c (.slice xa (L (stK m rs 0) - stP L m rs 0) xc) (.slice xaa (m - stK m rs 0) xca) (stT prev rs 0)) := hcur2
  have HPL : Hid (PlaceOK w5 N m AA L B prev rs 0 (.slice xa (L (stK m rs 0) - stP L m rs 0) xc) (.int .i64 ((m - stK m rs 0 : Nat) : Int)) (.int .i64 (stT prev rs 0))) := hpl
  clear hcur hmem hrep hb7 hvr hva hpl hcur2 HK21 HF6 HB6
  go_wp2_with fail
  refine (place24 _ _ _ _ _ _ _ _ _ (by omega) HCUR.out).mono ?_
  rintro e w8 ⟨rfl, nq, rfl⟩
  obtain ⟨y0, hy0⟩ := HF7.out.cell 0 (by omega)
  obtain ⟨y1, hy1⟩ := HF7.out.cell 1 (by omega)
  obtain ⟨y2, hy2⟩ := HF7.out.cell 2 (by omega)
  have hf0 := HF7.out.froz 0
  have hf1 := HF7.out.froz 1
  have hf2 := HF7.out.froz 2
  have HP0 := put_place (n := 0) (HS7.out.drewN nq) hNc HGA.out (HF7.out.more (w' := w7.drewN nq) rfl) (by omega) (below_drewN HB7.out nq) HPL.out
  simp only [Nat.zero_mul, Nat.zero_add] at HP0
  have HP : Hid _ := HP0
  clear HCUR HP0
  go_wp2
  go_loopw [20] (fun vt wr => ∃ (t : Nat) (vr va : Value), t ≤ M + 1 ∧ vt = .int .i64 (t : Int) ∧ Sta wr N ga c m AA L B prev rs vr va t ∧ FilP wr N (M + 2) (PlaceOK w5 N m AA L B prev rs) (t + 1) ∧ Below N w5 wr) (fun vt _ => M + 1 - (intOf vt).toNat)
  case atStart => exact ⟨0, vr, va, by omega, rfl, HP.out.1, HP.out.2.1, HP.out.2.2⟩
  case round =>
    clear HP HS7 HF7 HB7 HPL hy0 hy1 hy2 hf0 hf1 hf2
    obtain ⟨t, vr, va, ht, rfl, hs, hf, hb⟩ := hrel
    have HS : Hid (Sta wr N ga c m AA L B prev rs vr va t) := hs
    have HF : Hid (FilP wr N (M + 2) (PlaceOK w5 N m AA L B prev rs) (t + 1)) := hf
    have HB : Hid (Below N w5 wr) := hb
    clear hs hf hb
    by_cases hlt : t ≤ M
    · have HK : Hid (Calls Try.prog 22 #[.pointer (some ⟨c, 0, none⟩)] wr fun e w' => ∃ v0 v1 v2 vr' va', e = .returned (.tuple #[v0, v1, v2]) ∧ Sta w' N ga c m AA L B prev rs vr' va' (t + 1) ∧ Below c wr w') := by
        by_cases hl : t < M
        · obtain ⟨r, hr, hK⟩ := step_a HH.out HS.out (by rw [← HM.out]; exact hl) 22 (.inl rfl)
          refine hK.mono ?_
          rintro e w' ⟨vr', va', ab, cb, he, hrow, hsta, htt, hb7⟩
          exact ⟨_, _, _, vr', va', he, hsta, hb7⟩
        · have htM : t = rs.length := by rw [← HM.out]; omega
          refine (step_z HD.out HS.out (.inl htM) 22 (.inl rfl)).mono ?_
          rintro e w' ⟨vr', va', he, hsta, hb7⟩
          exact ⟨_, _, _, vr', va', he, by rw [htM]; exact hsta, hb7⟩
      go_wp2_with fail
      refine HK.out.mono ?_
      rintro e w9 ⟨v0, v1, v2, vr', va', rfl, hsta, hb9⟩
      have HSTA : Hid (Sta w9 N ga c m AA L B prev rs vr' va' (t + 1)) := hsta
      have HB9 : Hid (Below N w5 w9) := HB.out.trans (hb9.mono (by omega))
      have HF9 : Hid (FilP w9 N (M + 2) (PlaceOK w5 N m AA L B prev rs) (t + 1)) := HF.out.more (hb9.block _ hNc)
      obtain ⟨xa, xc, xaa, xca, hvr, hva, hpl⟩ := place_ok hsta HB9.out (Nat.le_refl _)
      have hcur2 := hsta.cur
      rw [hvr, hva] at hcur2
      have HCUR : Hid (Cur w9 c (.slice xa (L (stK m rs (t + 1)) - stP L m rs (t + 1)) xc) (.slice xaa (m - stK m rs (t + 1)) xca) (stT prev rs (t + 1))) := hcur2
      have HPL : Hid (PlaceOK w5 N m AA L B prev rs (t + 1) (.slice xa (L (stK m rs (t + 1)) - stP L m rs (t + 1)) xc) (.int .i64 ((m - stK m rs (t + 1) : Nat) : Int)) (.int .i64 (stT prev rs (t + 1)))) := hpl
      clear hsta hb9 hvr hva hpl hcur2 HK
      go_wp2_with fail
      refine (place24 _ _ _ _ _ _ _ _ _ (by omega) HCUR.out).mono ?_
      rintro e w10 ⟨rfl, nq, rfl⟩
      obtain ⟨y0, hy0⟩ := HF9.out.cell ((t + 1) * 3) (by omega)
      obtain ⟨y1, hy1⟩ := HF9.out.cell ((t + 1) * 3 + 1) (by omega)
      obtain ⟨y2, hy2⟩ := HF9.out.cell ((t + 1) * 3 + 2) (by omega)
      have hf0 := HF9.out.froz ((t + 1) * 3)
      have hf1 := HF9.out.froz ((t + 1) * 3 + 1)
      have hf2 := HF9.out.froz ((t + 1) * 3 + 2)
      have HP : Hid _ := put_place (n := t + 1) (HSTA.out.drewN nq) hNc HGA.out (HF9.out.more (w' := w9.drewN nq) rfl) (by omega) (below_drewN HB9.out nq) HPL.out
      clear HCUR
      go_wp2
      go_roundw
      case rel => exact ⟨t + 1, vr', va', by omega, by go_num, HP.out.1, HP.out.2.1, HP.out.2.2⟩
      case measure => simp [intOf]; omega
    · obtain rfl : t = M + 1 := by omega
      rw [show ((M + 1 : Nat) : Int) = (M : Int) + 1 by omega]
      have HVo : Hid (0 < rs.length → Vers wr g rs) := fun h => (HV5.out h).below HB.out (by have := (HG.out h).2; omega)
      have HFo : Hid (FilP wr N (M + 2) (PlaceOK w5 N m AA L B prev rs) (M + 2)) := HF.out
      have HBo : Hid (Below N w5 wr) := HB.out
      clear HS HF HB
      obtain ⟨wo, rfl⟩ : ∃ wo : World, wo = wr := ⟨_, rfl⟩
      go_upto_block 2 with fail
      go_cut [24] (fun v24 wx => ∃ k : Nat, v24 = .int .i64 (k : Int) ∧ k = firstAbove hor rs.reverse ∧ wx = wo)
      case first =>
        go_wp2_with fail
        go_loopg [24] (M + 1) (fun gk v24 wr => ∃ k : Nat, k + gk = M + 1 ∧ k ≤ M ∧ v24 = .int .i64 (k : Int) ∧ (∀ i r, i < k → rs.reverse[i]? = some r → r.ts ≤ hor) ∧ wr = wo)
        case atStart => exact ⟨0, by omega, by omega, rfl, fun i r hi => by omega, rfl⟩
        case round =>
          obtain ⟨k, hgk, hk, rfl, hall, rfl⟩ := hrel
          have HGK : Hid (k + gk = M + 1) := hgk
          have HA : Hid (∀ i r, i < k → rs.reverse[i]? = some r → r.ts ≤ hor) := hall
          clear hgk hall
          by_cases hlt2 : k < M
          · obtain ⟨r, hr⟩ := ver_ex (rs := rs) (t := k) (by rw [← HM.out]; exact hlt2)
            obtain ⟨hav, hg⟩ := HG.out (by rw [← HM.out]; omega)
            subst hav
            have hv1 := (HVo.out (by rw [← HM.out]; omega) k r hr).1
            have HR : Hid (rs.reverse[k]? = some r) := hr
            clear hr
            by_cases hle : r.ts ≤ hor
            · go_wp2
              go_roundg (gk - 1)
              case measure => have := HGK.out; omega
              case rel =>
                refine ⟨k + 1, by have := HGK.out; omega, by omega, by go_num, fun i x hi hx => ?_, rfl⟩
                by_cases e : i = k
                · subst e
                  rw [HR.out] at hx
                  cases hx
                  exact hle
                · exact HA.out i x (by omega) hx
            · go_wp2
              go_meet
              case rel =>
                refine ⟨k, rfl, ?_, rfl⟩
                exact (firstAbove_is hor rs.reverse k HA.out (fun x hx => by rw [HR.out] at hx; cases hx; omega) (by rw [List.length_reverse, ← HM.out]; exact hk)).symm
          · go_wp2
            go_meet
            case rel =>
              refine ⟨k, rfl, ?_, rfl⟩
              have hkM : k = rs.length := by rw [← HM.out]; omega
              rw [need_all (by rw [← hkM]; exact HA.out)]
              exact hkM
      case rest =>
        obtain ⟨k, rfl, hk, rfl⟩ := hcut
        have HKF : Hid (k = firstAbove hor rs.reverse) := hk
        have hkM : k ≤ M := by
          have := firstAbove_le hor rs.reverse
          rw [List.length_reverse, ← HM.out] at this
          omega
        clear hk
        obtain ⟨bq, hbq⟩ : ∃ bq : Bool, bq = (decide (k = M) && decide (new ≤ hor)) := ⟨_, rfl⟩
        have HBQ : Hid (bq = (decide (k = M) && decide (new ≤ hor))) := hbq
        clear hbq
        go_upto_region 25 with fail
        go_cut [121] (fun v121 wx => v121 = .bool bq ∧ wx = wc)
        case first =>
          by_cases hkm : k = M
          · have hkb : ((k : Int) == (M : Int)) = true := by rw [hkm]; simp
            have HKM : Hid (k = M) := hkm
            clear hkm
            by_cases hn : new ≤ hor
            · go_wp2
              go_meet
              case rel => exact ⟨by rw [HBQ.out, decide_eq_true HKM.out, decide_eq_true hn]; rfl, rfl⟩
            · go_wp2
              go_meet
              case rel => exact ⟨by rw [HBQ.out, decide_eq_true HKM.out, decide_eq_false (by omega)]; rfl, rfl⟩
          · have hkb : ((k : Int) == (M : Int)) = false := by simp; omega
            go_wp2
            go_meet
            case rel => exact ⟨by rw [HBQ.out, decide_eq_false hkm]; rfl, rfl⟩
        case rest =>
          obtain ⟨rfl, rfl⟩ := hcut
          obtain ⟨T, hT⟩ : ∃ T, T = needAt hor new rs := ⟨_, rfl⟩
          have HTN : Hid (T = needAt hor new rs) := hT
          have HT1 : Hid (bq = true → T = M + 1) := by
            intro h
            have hb := HBQ.out
            rw [h] at hb
            have hb2 := (Bool.and_eq_true _ _ ▸ hb.symm)
            rw [hT]
            unfold needAt
            rw [← HKF.out, ← HM.out, if_pos ⟨of_decide_eq_true hb2.1, of_decide_eq_true hb2.2⟩]
          have HT2 : Hid (bq = false → T = k - 1) := by
            intro h
            have hb := HBQ.out
            rw [h] at hb
            rw [hT]
            unfold needAt
            rw [← HKF.out, ← HM.out, if_neg (fun hh => by rw [decide_eq_true hh.1, decide_eq_true hh.2] at hb; cases hb)]
          have hTM : T ≤ M + 1 := by
            cases bq
            · have := HT2.out rfl; omega
            · have := HT1.out rfl; omega
          clear hT
          go_upto_if 121 with fail
          go_cut [25] (fun v25 wx => v25 = .int .i64 (T : Int) ∧ wx = wc)
          case first =>
            cases bq
            · by_cases hk0 : 0 < k
              · go_wp2
                go_meet
                case rel => exact ⟨by have := HT2.out trivial; go_num, rfl⟩
              · go_wp2
                go_meet
                case rel => exact ⟨by have := HT2.out trivial; go_num, rfl⟩
            · go_wp2
              go_meet
              case rel => exact ⟨by have := HT1.out trivial; go_num, rfl⟩
          case rest =>
            obtain ⟨rfl, rfl⟩ := hcut
            have HIc : Hid (HIn wc a1' m AA L L B) := HI5.out.below (by rw [← HN.out]; exact HBo.out)
            have hNw : N < wc.heap.size := HFo.out.lt
            have HK21 : ∀ cc : Nat, Hid (Calls Try.prog 21 #[.slice (AA 0) (L 0) (L 0), .slice a1' m cc, .int .i64 prev] wc fun e w' => NewCurX wc N m AA L B prev e w') := fun cc =>
              curx N m cc a1' AA L B prev wc (by omega) HIc.out (fun j hj => (HROW.out j hj).below HBo.out (Nat.le_refl _)) hm HL.out
            clear HT1 HT2 HBQ HKF
            go_wp2_with fail
            refine (HK21 _).out.mono ?_
            rintro e w11 ⟨ga2, d, vr2, va2, rfl, hcur, hmem, hrep, hb11, hc11, hga11⟩
            have HS11 : Hid (Sta w11 N ga2 d m AA L B prev rs vr2 va2 0) := ⟨hmem, by unfold stT; rw [stL_zero]; exact hcur, by unfold stK stP stN; rw [if_pos (Nat.zero_le _), if_pos (Nat.zero_le _), if_pos (Nat.zero_le _), if_pos rfl, stL_zero]; exact hrep⟩
            have HB11 : Hid (Below wc.heap.size wc w11) := hb11
            clear hcur hmem hrep hb11 HK21
            go_wp2_with fail
            refine (t26 N ga2 d m AA L B prev hor new rs _ _ _ HH.out HD.out HS11.out).mono ?_
            rintro e w12 ⟨rfl, vr3, va3, hsta, hb12⟩
            rw [← HTN.out] at hsta
            have HB12 : Hid (Below wc.heap.size wc w12) := HB11.out.trans (hb12.mono hc11)
            have HS12 : Hid (Sta w12 N ga2 d m AA L B prev rs vr3 va3 T) := hsta
            have hd12 := (cur_cells hsta.cur).2.2.2.2
            obtain ⟨K, xa2, a2, xaa2, xc2, xca2, c2, lr, q, nl, tT, D, hfv⟩ := fin_view HS12.out HFo.out (Nat.le_refl _) (by omega) HB12.out (HBo.out.trans (HB12.out.mono (by omega))) hNw
            have HFV : Hid (FinV w12 N d m T K AA L xa2 a2 xaa2 xc2 xca2 c2 lr q nl tT D) := hfv
            have hqm : q ≤ m := by have := hfv.qk; omega
            have hlr : lr ≤ 1048576 := hfv.lm
            have hNd : N < w12.heap.size := by have := HB12.out.size; omega
            clear hsta hb12 hfv HS11 HB11 HS12
            go_wp2_with fail
            refine (place24 _ _ _ _ _ _ _ _ _ (by omega) HFV.out.cur).mono ?_
            rintro e w13 ⟨rfl, nq13, hw13⟩
            have HFV13 : Hid (FinV w13 N d m T K AA L xa2 a2 xaa2 xc2 xca2 c2 lr q nl tT D) := by rw [hw13]; exact HFV.out.drewN nq13
            have HB13 : Hid (Below wc.heap.size wc w13) := by rw [hw13]; exact below_drewN HB12.out nq13
            have hNd13 : N < w13.heap.size := by have := HB13.out.size; omega
            clear hw13 HFV HB12 hNd
            have px := HFV13.out.px
            have py := HFV13.out.py
            have pz := HFV13.out.pz
            have pn := HFV13.out.nil
            have pn2 := HFV13.out.nil2
            have hnil := nil22
            go_wp2_with fail
            obtain ⟨O, hO⟩ : ∃ O : Obj, O = .cells #[.slice a2 lr c2, .int .i64 (q : Int), .int .i64 tT] 51 := ⟨_, rfl⟩
            rw [← hO]
            have HB14a : Hid (Below w13.heap.size w13 (w13.alloc O)) := (Below.refl _ _).alloc (Nat.le_refl _) _
            have hcs : (w13.alloc O).heap[w13.heap.size]? = some (.cells [.slice a2 lr c2, .int .i64 (q : Int), .int .i64 tT].toArray 51 (0, 0)) := by rw [heap_alloc_new w13 O, hO]
            have HCS : Hid ((w13.alloc O).cell? ⟨w13.heap.size, 0, none⟩ = some (.slice a2 lr c2) ∧ (w13.alloc O).cell? ⟨w13.heap.size, 1, none⟩ = some (.int .i64 (q : Int)) ∧ (w13.alloc O).cell? ⟨w13.heap.size, 2, none⟩ = some (.int .i64 tT)) :=
              ⟨by rw [cell_of_row hcs]; rfl, by rw [cell_of_row hcs]; rfl, by rw [cell_of_row hcs]; rfl⟩
            clear hcs hO px py pz pn pn2
            refine (eq23 _ _ _ _ _ N N D _ (by omega) (HFV13.out.row.below HB14a.out (by omega)) (HFV13.out.row2.below HB14a.out (by omega))).mono ?_
            rintro e w14 ⟨rfl, nq14, hw14⟩
            have HB14 : Hid (Below w13.heap.size w13 w14) := by rw [hw14]; exact below_drewN HB14a.out nq14
            have q0 : w14.cell? ⟨w13.heap.size, 0, none⟩ = some (.slice a2 lr c2) := by rw [hw14]; exact HCS.out.1
            have q1 : w14.cell? ⟨w13.heap.size, 1, none⟩ = some (.int .i64 (q : Int)) := by rw [hw14]; exact HCS.out.2.1
            have q2 : w14.cell? ⟨w13.heap.size, 2, none⟩ = some (.int .i64 tT) := by rw [hw14]; exact HCS.out.2.2
            have HK27 : Hid (Calls Try.prog 27 #[.pointer (some ⟨d, 0, none⟩)] w14 fun e w'' => ∃ g5, e = .returned (.slice (some ⟨g5, 0, none⟩) q q) ∧ (∀ j, j < q → w''.cell? ⟨g5, j, none⟩ = some (.slice (AA (K + j + 1)) (L (K + j + 1)) (L (K + j + 1)))) ∧ Below w14.heap.size w14 w'') := by
              have h := HFV13.out.aft w14 HB14.out
              unfold AfterC at h
              rw [← HFV13.out.qk] at h
              exact h
            clear hw14 HCS HB14a
            go_wp2_with fail
            refine HK27.out.mono ?_
            rintro e w15 ⟨g5, rfl, hcells, hb15⟩
            have HB15 : Hid (Below wc.heap.size wc w15) := (HB13.out.trans (HB14.out.mono HB13.out.size)).trans (hb15.mono (by have := HB13.out.size; have := HB14.out.size; omega))
            have HCL : Hid (∀ j, j < q → w15.cell? ⟨g5, j, none⟩ = some (.slice (AA (K + j + 1)) (L (K + j + 1)) (L (K + j + 1)))) := hcells
            have HQK : Hid (q = m - K) := HFV13.out.qk
            have hKm : K ≤ m := HFV13.out.km
            clear hcells hb15 HK27 q0 q1 q2
            go_wp2
            go_loopw [32] (fun vj wr => ∃ j nq : Nat, j ≤ q ∧ vj = .int .i64 (j : Int) ∧ wr = w15.drewN nq) (fun vj _ => q - (intOf vj).toNat)
            case atStart => exact ⟨0, 0, Nat.zero_le _, rfl, rfl⟩
            case round =>
              obtain ⟨j, nqr, hj, rfl, hwr⟩ := hrel
              have HWR : Hid (wr = w15.drewN nqr) := hwr
              have HBr : Hid (Below wc.heap.size wc wr) := by rw [hwr]; exact below_drewN HB15.out nqr
              have HCr : Hid (∀ j, j < q → wr.cell? ⟨g5, j, none⟩ = some (.slice (AA (K + j + 1)) (L (K + j + 1)) (L (K + j + 1)))) := by rw [hwr]; exact HCL.out
              clear hwr
              by_cases hlt3 : j < q
              · have hmq : (m : Int) - (q : Int) = (K : Int) := by have := HQK.out; omega
                obtain ⟨b1, o1, ha1, hb1, hc1⟩ := HIc.out.top (by have := HQK.out; omega)
                subst ha1
                have e1 := HCr.out j hlt3
                have e2 : wr.cell? ⟨b1, o1 + (K + j), none⟩ = some (.slice (AA (K + j + 1)) (L (K + j + 1)) (L (K + j + 1))) := by
                  rw [HBr.out.cell (by exact hb1)]
                  exact hc1 (K + j) (by have := HQK.out; omega)
                have HRW : Hid (RowN wr N (AA (K + j + 1)) (L (K + j + 1)) (B (K + j + 1))) := ((HROW.out (K + j + 1) (by have := HQK.out; omega)).below HBo.out (Nat.le_refl _)).below HBr.out (by omega)
                have hLl := HL.out (K + j + 1) (by have := HQK.out; omega)
                obtain ⟨aj, haj⟩ : ∃ aj, aj = AA (K + j + 1) := ⟨_, rfl⟩
                obtain ⟨lj, hlj⟩ : ∃ lj, lj = L (K + j + 1) := ⟨_, rfl⟩
                rw [← haj, ← hlj] at e1 e2 HRW
                rw [← hlj] at hLl
                have hj1 : (j : Int) < (q : Int) := by omega
                have hj2 : (K : Int) + (j : Int) < (m : Int) := by have := HQK.out; omega
                have hw1 : IntKind.i64.wrap (K : Int) = (K : Int) := wrap_small _ (by omega) (by omega)
                have hw2 : IntKind.i64.wrap ((K : Int) + (j : Int)) = (K : Int) + (j : Int) := wrap_small _ (by omega) (by omega)
                have hw3 : ((K : Int) + (j : Int)).toNat = K + j := by omega
                have hw4 : (0 : Int) ≤ (K : Int) + (j : Int) := by omega
                clear haj hlj hc1
                go_wp2
                go_quiet ((go_at_call 23; exact Calls.quiet_of (eq23 _ _ _ _ _ N N (B (K + j + 1)) _ (by omega) (HRW.out.below (below_drewN (Below.refl N wr) _) (Nat.le_refl _)) (HRW.out.below (below_drewN (Below.refl N wr) _) (Nat.le_refl _)))))
                go_wp2
                go_roundw
                case rel => exact ⟨j + 1, nqr + nq, by omega, by go_num, by rw [HWR.out, World.drewN_drewN]⟩
                case measure => simp [intOf]; omega
              · go_wp2
                go_ret
                exact ⟨rfl, HB25.out.trans ((HBo.out.trans (HBr.out.mono (by omega))).mono (by omega))⟩
end Go.Proofs.Qxb6602753a.fnToFirstNeededMatchesStepwiseScan
