/-
  THE WALK OF FnToFirstNeededKeepsWhatTheHorizonSees (8).
-/
import Derived.Test.Qxb6602753aKeepsPlain
import Derived.Test.Qxb6602753aFitsWalk
namespace Go.Proofs.Qxb6602753a.fnToFirstNeededKeepsWhatTheHorizonSees
open Go.RowKit
open Uv

/-- Where the law begins to read: at version T, the cursor in state nd. -/
def AtQ (M T nd : Nat) : Prop := T ≤ M ∧ (nd = T ∨ (T = M ∧ nd = M + 1))

set_option maxHeartbeats 4000000 in
theorem walk (a1 : Option Addr) (m c1 : Nat) (A : Nat → Option Addr) (L C : Nat → Nat) (B : Nat → Nat → Int) (prev hor new : Int) (w : World) (hin : HIn w a1 m A L C B) (_h1 : (Lit.int .i64 prev).wf = true) (_h2 : (Lit.int .i64 hor).wf = true) (_h3 : (Lit.int .i64 new).wf = true) :
    Calls Try.prog 8 #[.slice (A 0) (L 0) (C 0), .slice a1 m c1, .int .i64 prev, .int .i64 hor, .int .i64 new] w fun e w' => e = .returned (.bool true) ∧ Below w.heap.size w w' := by
  have HI : Hid (HIn w a1 m A L C B) := hin
  clear hin
  go_enter Try.func8, Try.ntmps8
  go_wp2_with fail
  refine (z28 a1 m c1 A L C B prev hor new _ HI.out).mono ?_
  rintro e w1 ⟨⟨bb, rfl⟩, rfl⟩
  cases bb
  · go_wp2
    go_ret
    exact ⟨rfl, Below.refl _ _⟩
  go_wp2_with fail
  refine (f17 a1 m c1 A L C B _ HI.out).mono ?_
  rintro e w2 ⟨⟨bb, rfl, hfit⟩, rfl⟩
  cases bb
  · go_wp2
    go_ret
    exact ⟨rfl, Below.refl _ _⟩
  obtain ⟨hm, htot⟩ := hfit rfl
  have HT : Hid (tot L (m + 1) ≤ 1048576) := htot
  clear hfit htot
  go_wp2_with fail
  refine (h18 a1 m c1 A L C B prev _ HI.out hm HT.out).mono ?_
  rintro e w3 (⟨rfl, hb3⟩ | ⟨rs, v, hst, hdone, rfl⟩)
  · have HB3 : Hid (Below w2.heap.size w2 w3) := hb3
    clear hb3
    go_wp2
    go_ret
    exact ⟨rfl, HB3.out⟩
  obtain ⟨av, cv, g, hv, hvg, hvers⟩ := vers_of hst
  have HL : Hid (∀ j, j ≤ m → L j ≤ 1048576) := len_of_tot HT.out
  have HB3 : Hid (Below w2.heap.size w2 w3) := hst.bel
  have HI3 : Hid (HIn w3 a1 m A L C B) := HI.out.below hst.bel
  rw [hv]
  have HH : Hid (Hist L B m prev rs) := hst.hist
  have HBod : Hid (∀ r, r ∈ rs → Row8 w2 r.a r.n (fun j => B r.k (r.s + j)) ∧ r.n ≤ r.c) := hst.bod
  have HD : Hid (Done L m (endK rs) (endP rs)) := hdone
  have HG : Hid (0 < rs.length → av = some ⟨g, 0, none⟩ ∧ g < w3.heap.size) := hvg
  have HV : Hid (Vers w3 g rs) := hvers
  have hlen : rs.length ≤ 1048576 := by
    have h0 := hist_len hst.hist
    have h1 := endK_le hst.hist
    have h2 := endP_le hst.hist
    have h3 : tot L (endK rs + 1) ≤ tot L (m + 1) := tot_mono L (by omega)
    rw [tot] at h3
    have := HT.out
    omega
  obtain ⟨M, hM⟩ : ∃ M, M = rs.length := ⟨_, rfl⟩
  rw [← hM] at hlen ⊢
  have HM : Hid (M = rs.length) := hM
  clear hst hdone hv hvg hvers hM
  go_wp2
  go_loopw [15] (fun vt wr => ∃ s nq : Nat, (s + 1 ≤ M ∨ s = 0) ∧ vt = .int .i64 ((s + 1 : Nat) : Int) ∧ Grows rs (s + 1) ∧ wr = w3.drewN nq) (fun vt _ => M - (intOf vt).toNat)
  case atStart => exact ⟨0, 0, .inr rfl, rfl, fun t r r' h => by omega, rfl⟩
  case round =>
    obtain ⟨s, nq, hs, rfl, hgr, rfl⟩ := hrel
    have HGR : Hid (Grows rs (s + 1)) := hgr
    clear hgr
    by_cases hlt : s + 1 < M
    · obtain ⟨r, hr⟩ := ver_ex (rs := rs) (t := s) (by rw [← HM.out]; omega)
      obtain ⟨r', hr'⟩ := ver_ex (rs := rs) (t := s + 1) (by rw [← HM.out]; omega)
      obtain ⟨hav, hg⟩ := HG.out (by rw [← HM.out]; omega)
      subst hav
      have hv1 := (HV.out s r hr).1
      have hv2 := (HV.out (s + 1) r' hr').1
      have HR : Hid (rs.reverse[s]? = some r) := hr
      have HR' : Hid (rs.reverse[s + 1]? = some r') := hr'
      have hl1 : (s : Int) < (M : Int) := by omega
      have hl2 : (s : Int) + 1 < (M : Int) := by omega
      clear hr hr'
      go_wp2
      go_quiet (fail)
      go_wp2
      · go_ret
        exact ⟨rfl, below_drewN (below_drewN HB3.out _) _⟩
      · go_roundw
        case rel =>
          refine ⟨s + 1, _, by omega, by go_num, fun t x x' h1 h2 h3 => ?_, rfl⟩
          by_cases e : t = s
          · subst e
            rw [HR.out] at h2
            rw [HR'.out] at h3
            cases h2
            cases h3
            assumption
          · exact HGR.out t x x' (by omega) h2 h3
        case measure => simp [intOf]; omega
    · have HGM : Hid (Grows rs rs.length) := by
        intro t x x' h1 h2 h3
        exact HGR.out t x x' (by have := HM.out; omega) h2 h3
      clear HGR
      have HB3' : Hid (Below w2.heap.size w2 (w3.drewN nq)) := below_drewN HB3.out nq
      have HI3' : Hid (HIn (w3.drewN nq) a1 m A L C B) := HI3.out.below (below_drewN (Below.refl _ _) nq)
      have HV' : Hid (Vers (w3.drewN nq) g rs) := HV.out
      have HG' : Hid (0 < rs.length → av = some ⟨g, 0, none⟩ ∧ g < (w3.drewN nq).heap.size) := HG.out
      clear HB3 HI3 HV HG
      generalize w3.drewN nq = wa at *
      have hK : (∃ r : Rc, 0 < M ∧ new ≤ r.ts ∧ av = some ⟨g, 0, none⟩ ∧ wa.cell? ⟨g, (M - 1) * 2, none⟩ = some (.int .i64 r.ts)) ∨ ((M : Int) ≤ 0 ∧ decide ((0 : Int) < (M : Int)) = false ∧ Hid (∀ r, rs.reverse[rs.length - 1]? = some r → r.ts < new)) ∨
          ∃ r : Rc, (0 < M ∧ r.ts < new ∧ av = some ⟨g, 0, none⟩ ∧ wa.cell? ⟨g, (M - 1) * 2, none⟩ = some (.int .i64 r.ts)) ∧ Hid (∀ r, rs.reverse[rs.length - 1]? = some r → r.ts < new) := by
        by_cases hM0 : 0 < M
        · obtain ⟨r, hr⟩ := ver_ex (rs := rs) (t := M - 1) (by rw [← HM.out]; omega)
          have h1 := (HG'.out (by rw [← HM.out]; exact hM0)).1
          have h2 := (HV'.out _ r hr).1
          by_cases hn : new ≤ r.ts
          · exact .inl ⟨r, hM0, hn, h1, h2⟩
          · refine .inr (.inr ⟨r, ⟨hM0, by omega, h1, h2⟩, fun x hx => ?_⟩)
            rw [← HM.out, hr] at hx
            cases hx
            omega
        · exact .inr (.inl ⟨by omega, by simp; omega, fun r hr => by have := ver_lt hr; have := HM.out; omega⟩)
      rcases hK with ⟨r, hM0, hn, hav, hcell⟩ | ⟨hM0, hd, HLast⟩ | ⟨r, ⟨hM0, hn, hav, hcell⟩, HLast⟩
      · go_wp2
        go_ret
        exact ⟨rfl, HB3'.out⟩
      all_goals
        go_wp2_with fail
        try clear hd
        try clear hn hav hcell
        refine (c19 _ _ _ (B 0) _ (HL.out 0 (Nat.zero_le _)) (HI3'.out.row 0 (Nat.zero_le _))).mono ?_
        rintro e w4 ⟨a0', rfl, hn0, hr0, hx0, hb4⟩
        have HI4 : Hid (HIn w4 a1 m A L C B) := HI3'.out.below hb4
        have HR0 : Hid (RowN w4 w4.heap.size a0' (L 0) (B 0)) := hr0
        have HB4 : Hid (Below wa.heap.size wa w4) := hb4
        clear hn0 hr0 hx0 hb4
        go_wp2_with fail
        refine (c20 _ _ _ A L C B _ HI4.out hm HL.out).mono ?_
        rintro e w5 ⟨a1', A', rfl, hn1, hr1, ht1, hb5⟩
        have HI5 : Hid (HIn w5 a1' m (fun j => if j = 0 then a0' else A' j) L L B) := clones_in hm HL.out HR0.out hb5 (fun j hj => (hr1 j hj).1) ht1
        have HB5 : Hid (Below w4.heap.size w4 w5) := hb5
        clear hn1 hr1 ht1 hb5
        have HV5 : Hid (0 < rs.length → Vers w5 g rs) := fun h => HV'.out.below (HB4.out.trans (HB5.out.mono HB4.out.size)) (HG'.out h).2
        go_wp2
        go_loop [16, 17] (fun vq vt => ∃ t : Nat, t ≤ M ∧ vt = .int .i64 (t : Int) ∧ vq = .int .i64 (qAt hor rs t : Int)) (fun _ vt => M - (intOf vt).toNat)
        case atStart => exact ⟨0, Nat.zero_le _, rfl, by unfold qAt; simp⟩
        case round =>
          obtain ⟨t, ht, rfl, rfl⟩ := hrel
          by_cases hlt2 : t < M
          · try (exfalso; omega)
            all_goals
              obtain ⟨r, hr⟩ := ver_ex (rs := rs) (t := t) (by rw [← HM.out]; omega)
              obtain ⟨hav, hg⟩ := HG'.out (by rw [← HM.out]; omega)
              subst hav
              have hv1 := (HV5.out (by rw [← HM.out]; omega) t r hr).1
              have HR : Hid (rs.reverse[t]? = some r) := hr
              clear hr
              by_cases hle : r.ts ≤ hor
              · have HQ : Hid (qAt hor rs (t + 1) = t) := qAt_yes HGM.out HR.out hle
                go_wp2
                go_round
                case rel => exact ⟨t + 1, by omega, by go_num, by rw [HQ.out]⟩
                case measure => simp [intOf]; omega
              · have HQ : Hid (qAt hor rs (t + 1) = qAt hor rs t) := qAt_no HGM.out HR.out hle
                go_wp2
                go_round
                case rel => exact ⟨t + 1, by omega, by go_num, by rw [HQ.out]⟩
                case measure => simp [intOf]; omega
          · obtain rfl : M = t := by omega
            have hneed := need_q (hor := hor) HGM.out HLast.out
            rw [← HM.out] at hneed
            have HND : Hid ((new ≤ hor → needAt hor new rs = M + 1) ∧ (¬ new ≤ hor → needAt hor new rs = qAt hor rs M ∧ qAt hor rs M ≤ M)) := hneed
            clear hneed
            have HK21 : ∀ cc : Nat, Hid (Calls Try.prog 21 #[.slice a0' (L 0) (L 0), .slice a1' m cc, .int .i64 prev] w5 fun e w' => NewCur w5 m (fun j => if j = 0 then a0' else A' j) L B prev e w') := fun cc =>
              cur21 a1' m cc (fun j => if j = 0 then a0' else A' j) L B prev w5 HI5.out hm HL.out
            obtain ⟨T, HT0⟩ : ∃ T, Hid (T = qAt hor rs M) := ⟨_, rfl⟩
            rw [← HT0.out]
            have hTM : T ≤ 1048576 := by
              have := HT0.out
              unfold qAt at this
              omega
            by_cases hn : new ≤ hor
            case' pos => have HST : AtQ M M (needAt hor new rs) := ⟨Nat.le_refl _, .inr ⟨rfl, HND.out.1 hn⟩⟩
            case' neg => have HST : AtQ M T (needAt hor new rs) := by
                          have := HND.out.2 hn
                          rw [← HT0.out] at this
                          exact ⟨this.2, .inl this.1⟩
            all_goals
              clear HND HT0
              go_wp2_with fail
              refine (HK21 _).out.mono ?_
              rintro e w6 ⟨ga, c, vr, va, rfl, hcur, hmem, hrep, hb6⟩
              obtain ⟨AA, hAA⟩ : ∃ AA : Nat → Option Addr, AA = (fun j => if j = 0 then a0' else A' j) := ⟨_, rfl⟩
              rw [← hAA] at hmem hrep
              have HS0 : Hid (Sta w6 w5.heap.size ga c m AA L B prev rs vr va 0) := ⟨hmem, by unfold stT; rw [stL_zero]; exact hcur, by unfold stK stP stN; rw [if_pos (Nat.zero_le _), if_pos (Nat.zero_le _), if_pos (Nat.zero_le _), if_pos rfl, stL_zero]; exact hrep⟩
              have hNc := hmem.nc
              have hsz : w2.heap.size ≤ wa.heap.size ∧ wa.heap.size ≤ w5.heap.size := by
                have s3 := HB3'.out.size
                have s4 := HB4.out.size
                have s5 := HB5.out.size
                omega
              have HBa : Hid (Below w2.heap.size w2 w6) := by
                have s4 := HB4.out.size
                exact ((HB3'.out.trans (HB4.out.mono (by omega))).trans (HB5.out.mono (by omega))).trans (hb6.mono (by omega))
              have HV6 : Hid (0 < rs.length → Vers w6 g rs) := fun h => (HV5.out h).below hb6 (by have := (HG'.out h).2; omega)
              clear hcur hmem hrep hb6 HK21 hAA
              go_wp2_with fail
              refine (t26 w5.heap.size ga c m AA L B prev hor new rs _ _ _ HH.out HD.out HS0.out).mono ?_
              rintro e w7 ⟨rfl, vr', va', hsta, hb7⟩
              have HSTA : Hid (Sta w7 w5.heap.size ga c m AA L B prev rs vr' va' (needAt hor new rs)) := hsta
              have HB7 : Hid (Below c w6 w7) := hb7
              clear hsta hb7 HS0
              obtain ⟨N, hN⟩ : ∃ N, N = w5.heap.size := ⟨_, rfl⟩
              rw [← hN] at HSTA hNc hsz
              clear hN
              go_wp2
              go_loopw [19] (fun vt wr => ∃ (t s : Nat) (vr va : Value), t ≤ M ∧ (s = t ∨ (t = M ∧ s = M + 1)) ∧ vt = .int .i64 (t : Int) ∧ Sta wr N ga c m AA L B prev rs vr va s ∧ Below c w6 wr) (fun vt _ => M - (intOf vt).toNat)
              case atStart => exact ⟨_, _, vr', va', HST.1, HST.2, rfl, HSTA.out, HB7.out⟩
              case round =>
                clear HSTA HST HB7
                obtain ⟨t, st, vr, va, ht, hst, rfl, hs, hb⟩ := hrel
                have HS : Hid (Sta wr N ga c m AA L B prev rs vr va st) := hs
                have HB : Hid (Below c w6 wr) := hb
                have HSt : Hid (st = t ∨ (t = M ∧ st = M + 1)) := hst
                clear hs hb hst
                by_cases hlt3 : t < M
                · try (exfalso; omega)
                  all_goals
                    obtain rfl : st = t := by have := HSt.out; omega
                    obtain ⟨r, hr, hK⟩ := step_a HH.out HS.out (by rw [← HM.out]; exact hlt3) 22 (.inl rfl)
                    have HK : Hid (Calls Try.prog 22 #[.pointer (some ⟨c, 0, none⟩)] wr fun e w' => StepA wr N ga c m AA L B prev rs st r e w') := hK
                    have HRr : Hid (rs.reverse[st]? = some r) := hr
                    obtain ⟨hav, hg⟩ := HG'.out (by rw [← HM.out]; omega)
                    subst hav
                    clear hK hr
                    go_wp2_with fail
                    refine HK.out.mono ?_
                    rintro e w7 ⟨vr', va', ab, cb, rfl, hrow, hsta, htt, hb7⟩
                    have hver := (((HV6.out (by rw [← HM.out]; omega)).below HB.out (by omega)).below hb7 (by omega)) st r HRr.out
                    obtain ⟨hv1, hv2⟩ := hver
                    have HROW : Hid (RowN w7 N ab r.n (fun i => B r.k (r.s + i))) := hrow
                    have HSTA : Hid (Sta w7 N ga c m AA L B prev rs vr' va' (st + 1)) := hsta
                    have HB7 : Hid (Below c wr w7) := hb7
                    have hmem := mem_of_rev HRr.out
                    have hrn : r.n ≤ 2000000 := by
                      obtain ⟨h1, h2⟩ := hist_n HH.out r hmem
                      have := HL.out r.k h1
                      omega
                    have HROW2 : Hid (RowN w7 w2.heap.size r.a r.n (fun i => B r.k (r.s + i))) :=
                      ((RowN.below (rowN_of (HBod.out r hmem).1) HBa.out (Nat.le_refl _)).below HB.out (by omega)).below HB7.out (by omega)
                    clear hrow hsta htt hb7 HK hmem
                    go_wp2_with fail
                    refine (eq23 _ _ _ _ _ N w2.heap.size _ _ hrn HROW.out HROW2.out).mono ?_
                    rintro e w8 ⟨rfl, nq, rfl⟩
                    have HFin : Hid (Sta (w7.drewN nq) N ga c m AA L B prev rs vr' va' (st + 1) ∧ Below c w6 (w7.drewN nq)) := ⟨HSTA.out.drewN nq, below_drewN (HB.out.trans HB7.out) nq⟩
                    go_wp2
                    go_roundw
                    case rel => exact ⟨st + 1, st + 1, vr', va', by omega, .inl rfl, by go_num, HFin.out.1, HFin.out.2⟩
                    case measure => simp [intOf]; omega
                · have HK : Hid (Calls Try.prog 22 #[.pointer (some ⟨c, 0, none⟩)] wr fun e w' => StepZ wr N ga c m AA L B prev rs e w') := step_z HD.out HS.out (by have := HSt.out; have := HM.out; omega) 22 (.inl rfl)
                  go_wp2_with fail
                  refine HK.out.mono ?_
                  rintro e w7 ⟨vr', va', rfl, hsta, hb7⟩
                  have HBf : Hid (Below w2.heap.size w2 w7) := HBa.out.trans ((HB.out.trans hb7).mono (by omega))
                  clear hsta hb7 HK
                  go_wp2
                  go_ret
                  exact ⟨rfl, HBf.out⟩
end Go.Proofs.Qxb6602753a.fnToFirstNeededKeepsWhatTheHorizonSees
