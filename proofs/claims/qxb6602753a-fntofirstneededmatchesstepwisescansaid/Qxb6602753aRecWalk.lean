/-
  THE CONTRACT OF parseRecord (33).
-/
import Derived.Test.Qxb6602753aHistIn
import Derived.Test.Qxb6602753aHorner
import Derived.Test.Qxb6602753aHist
import Derived.RegionTactic
import Derived.Deep.QuietTactic
import Derived.BigQuiet
namespace Go.Proofs.Qxb6602753a
open Go.RowKit Go.ChangeShapes Go.WideShapes Go.ChangeAt
open Uv

/-- What a place of a piece leads to: no varint, or one. -/
theorem vi_or (B : Nat → Int) (len p : Nat) : (∀ k, p ≤ k → k < len → 128 ≤ B k) ∨ ∃ n, Vi B len p n := by
  rcases first_end B p len with h | ⟨n, h1, h2, h3⟩
  · exact .inl h
  · exact .inr ⟨n, h1, h2, h3⟩

/-- FOUR RESULTS (after the guide's own 'results_tmp3'). -/
theorem results_tmp4 {fn : Func} {t u v x : Tmp} (h : fn.results = #[.tmp t, .tmp u, .tmp v, .tmp x]) (tmps : Array Value) (P : Program) (w : World) :
    (results fn tmps).run P w = .ok (.tuple #[tmps.getD t undef, tmps.getD u undef, tmps.getD v undef, tmps.getD x undef]) w := by
  simp [results, h]

theorem ret_rec {d e e' : Int} {a : Option Addr} {l l' c : Nat} (h1 : l = l') (h2 : e = e') :
    Ending.returned (.tuple #[.int .u64 d, .slice a l c, .int .i64 e, .bool true]) = .returned (.tuple #[.int .u64 d, .slice a l' c, .int .i64 e', .bool true]) := by rw [h1, h2]

set_option maxHeartbeats 800000 in
theorem p33 (b off len cap p : Nat) (P : Int) (B : Nat → Int) (w : World) (hP : P = (p : Int)) (hlen : len ≤ 1048576) (hp : p < len) (hcap : len ≤ cap) (hcm : cap ≤ 9223372036854775807)
    (hc : ∀ k, k < len → w.cell? ⟨b, off + k, none⟩ = some (.int .u8 (B k))) (hb : ∀ k, k < len → 0 ≤ B k ∧ B k < 256) :
    Calls Try.prog 33 #[.slice (some ⟨b, off, none⟩) len cap, .int .i64 P] w fun e w' => ∃ nq, w' = w.drewN nq ∧
      (e = .returned (.tuple #[.int .u64 0, .slice none 0 0, .int .i64 0, .bool false]) ∨
       ∃ (d : Int) (s n : Nat) (a : Option Addr) (c : Nat), Rec B len p d s n ∧ n ≤ c ∧ c ≤ cap ∧ (0 < n → a = some ⟨b, off + s, none⟩) ∧
         e = .returned (.tuple #[.int .u64 d, .slice a n c, .int .i64 ((s + n : Nat) : Int), .bool true])) := by
  have HC : Hid (∀ k, k < len → w.cell? ⟨b, off + k, none⟩ = some (.int .u8 (B k))) := hc
  have HB : Hid (∀ k, k < len → 0 ≤ B k ∧ B k < 256) := hb
  clear hc hb
  subst hP
  rcases vi_or B len p with hall | ⟨n1, v1⟩
  · have HA : Hid (∀ k, p ≤ k → k < len → 128 ≤ B k) := hall
    clear hall
    go_enter Try.func33, Try.ntmps33
    go_wp2_with fail
    refine (h11_none b off len cap p _ B _ rfl (by omega) hp HC.out HA.out).mono ?_
    rintro e w1 ⟨rfl, rfl⟩
    go_wp2
    refine bodyPost_ret (results_tmp4 rfl _ _ _) rfl ?_
    exact ⟨0, rfl, .inl rfl⟩
  · have hin1 := v1.inn
    have V1 : Hid (Vi B len p n1) := v1
    clear v1
    by_cases ha : len ≤ p + n1 + 1
    · go_enter Try.func33, Try.ntmps33
      go_wp2_with fail
      refine (h11_ok b off len cap p n1 _ B _ rfl (by omega) HC.out HB.out hin1 V1.out.mid V1.out.stop).mono ?_
      rintro e w1 ⟨rfl, rfl⟩
      go_wp2_with fail
      refine (h11_out _ len cap _ _ (by omega) (by omega)).mono ?_
      rintro e w1 ⟨rfl, rfl⟩
      go_wp2
      refine bodyPost_ret (results_tmp4 rfl _ _ _) rfl ?_
      exact ⟨0, rfl, .inl rfl⟩
    · rcases vi_or B len (p + n1 + 1) with hall | ⟨n2, v2⟩
      · have HA : Hid (∀ k, p + n1 + 1 ≤ k → k < len → 128 ≤ B k) := hall
        clear hall
        go_enter Try.func33, Try.ntmps33
        go_wp2_with fail
        refine (h11_ok b off len cap p n1 _ B _ rfl (by omega) HC.out HB.out hin1 V1.out.mid V1.out.stop).mono ?_
        rintro e w1 ⟨rfl, rfl⟩
        go_wp2_with fail
        refine (h11_none b off len cap (p + n1 + 1) _ B _ (by omega) (by omega) (by omega) HC.out HA.out).mono ?_
        rintro e w1 ⟨rfl, rfl⟩
        go_wp2
        refine bodyPost_ret (results_tmp4 rfl _ _ _) rfl ?_
        exact ⟨0, rfl, .inl rfl⟩
      · have hin2 := v2.inn
        have V2 : Hid (Vi B len (p + n1 + 1) n2) := v2
        clear v2
        have hu0 := uv_lo B (p + n1 + 1) (n2 + 1)
        have hu1 := uv_hi B (p + n1 + 1) (n2 + 1)
        obtain ⟨u, hu⟩ : ∃ u, u = uv B (p + n1 + 1) (n2 + 1) := ⟨_, rfl⟩
        rw [← hu] at hu0 hu1
        have HU : Hid (u = uv B (p + n1 + 1) (n2 + 1)) := hu
        clear hu
        have K2 : ∀ (I : Int) (w1 : World) (hI : I = ((p + n1 + 1 : Nat) : Int)) (hc : ∀ k, k < len → w1.cell? ⟨b, off + k, none⟩ = some (.int .u8 (B k))), Hid (Calls Try.prog 11 #[.slice (some ⟨b, off, none⟩) len cap, .int .i64 I] w1 fun e w' =>
            e = .returned (.tuple #[.int .u64 u, .int .i64 ((p + n1 + 1 + n2 + 1 : Nat) : Int), .bool true]) ∧ w' = w1) := by
          intro I w1 hI hc
          rw [HU.out]
          exact h11_ok b off len cap (p + n1 + 1) n2 I B w1 hI (by omega) hc HB.out hin2 V2.out.mid V2.out.stop
        by_cases hbig : (len : Int) - ((p : Int) + n1 + 1 + n2 + 1) < u
        · go_enter Try.func33, Try.ntmps33
          go_wp2_with fail
          refine (h11_ok b off len cap p n1 _ B _ rfl (by omega) HC.out HB.out hin1 V1.out.mid V1.out.stop).mono ?_
          rintro e w1 ⟨rfl, rfl⟩
          go_wp2_with fail
          refine (K2 _ _ (by omega) HC.out).out.mono ?_
          rintro e w1 ⟨rfl, rfl⟩
          go_wp2
          refine bodyPost_ret (results_tmp4 rfl _ _ _) rfl ?_
          exact ⟨0, rfl, .inl rfl⟩
        · obtain ⟨n, rfl⟩ := Int.eq_ofNat_of_zero_le hu0
          have hfit : p + n1 + 1 + n2 + 1 + n ≤ len := by omega
          clear hu0 hu1 hbig
          go_enter Try.func33, Try.ntmps33
          go_wp2_with fail
          refine (h11_ok b off len cap p n1 _ B _ rfl (by omega) HC.out HB.out hin1 V1.out.mid V1.out.stop).mono ?_
          rintro e w1 ⟨rfl, rfl⟩
          go_wp2_with fail
          refine (K2 _ _ (by omega) HC.out).out.mono ?_
          rintro e w1 ⟨rfl, rfl⟩
          by_cases hsc : p + n1 + 1 + n2 + 1 < cap
          · have hsc' : (p : Int) + n1 + 1 + n2 + 1 < (cap : Int) := by omega
            go_wp2
            go_quiet (fail)
            go_wp2
            refine bodyPost_ret (results_tmp4 rfl _ _ _) rfl ?_
            exact ⟨nq, rfl, .inr ⟨uv B p (n1 + 1), p + n1 + 1 + n2 + 1, n, some ⟨b, off + (p + n1 + 1 + n2 + 1), none⟩, cap - (p + n1 + 1 + n2 + 1), ⟨n1, n2, V1.out, rfl, V2.out, HU.out, rfl, hfit⟩, by omega, by omega, fun _ => rfl, ret_rec (by omega) (by omega)⟩⟩
          · have hn0 : n = 0 := by omega
            subst hn0
            obtain rfl : cap = p + n1 + 1 + n2 + 1 := by omega
            go_wp2
            go_quiet (fail)
            go_wp2
            refine bodyPost_ret (results_tmp4 rfl _ _ _) rfl ?_
            exact ⟨nq, rfl, .inr ⟨uv B p (n1 + 1), p + n1 + 1 + n2 + 1, 0, some ⟨b, off, none⟩, p + n1 + 1 + n2 + 1 - (p + n1 + 1 + n2 + 1), ⟨n1, n2, V1.out, rfl, V2.out, HU.out, rfl, hfit⟩, by omega, by omega, (fun h => by omega), ret_rec rfl (by omega)⟩⟩
end Go.Proofs.Qxb6602753a
