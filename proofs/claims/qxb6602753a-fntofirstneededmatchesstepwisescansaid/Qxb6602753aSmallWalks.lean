/-
  ZZNext (22), ZZCursorPlace (24), bytesEqual (23).
-/
import Derived.Test.Qxb6602753aNextEnd
namespace Go.Proofs.Qxb6602753a
open Go.RowKit Go.ChangeShapes Go.WideShapes Go.ChangeAt
open Uv

theorem n22_ok (N ga c m k p : Nat) (nl : Bool) (A : Nat → Option Addr) (L : Nat → Nat) (B : Nat → Nat → Int) (vr va : Value) (ts : Int) (r : Rc) (w : World)
    (hmem : Mem w N ga c m A L B) (hcur : Cur w c vr va ts) (hrep : Rep w N ga m L B vr va k p nl) (hstep : StepOk L B m k p ts r) :
    Calls Try.prog 22 #[.pointer (some ⟨c, 0, none⟩)] w fun e w' => NextOk w N ga c m L B r e w' := by
  have K : Hid (Calls Try.prog 34 #[.pointer (some ⟨c, 0, none⟩)] w fun e w' => NextOk w N ga c m L B r e w') := n34_ok N ga c m k p nl A L B vr va ts r w hmem hcur hrep hstep
  clear hmem hcur hrep hstep
  go_enter Try.func22, Try.ntmps22
  go_wp2_with fail
  refine K.out.mono ?_
  rintro e w' ⟨vr, va, ab, cb, rfl, h1, h2, h3, h4⟩
  have H : Hid (NextOk w N ga c m L B r (.returned (.tuple #[.int .i64 r.ts, .slice ab r.n cb, .bool true])) w') := ⟨vr, va, ab, cb, rfl, h1, h2, h3, h4⟩
  clear h1 h2 h3 h4
  go_wp2
  go_ret3
  exact H.out

theorem n22_end (N ga c m k p : Nat) (nl : Bool) (A : Nat → Option Addr) (L : Nat → Nat) (B : Nat → Nat → Int) (vr va : Value) (ts : Int) (w : World)
    (hmem : Mem w N ga c m A L B) (hcur : Cur w c vr va ts) (hrep : Rep w N ga m L B vr va k p nl) (hdone : Done L m k p) :
    Calls Try.prog 22 #[.pointer (some ⟨c, 0, none⟩)] w fun e w' => NextEnd w N ga c m L B ts (if k = m then nl else (A m).isNone) e w' := by
  have K := n34_end N ga c m k p nl A L B vr va ts w hmem hcur hrep hdone
  obtain ⟨nf, hnf⟩ : ∃ nf, nf = (if k = m then nl else (A m).isNone) := ⟨_, rfl⟩
  rw [← hnf] at K ⊢
  have HK : Hid (Calls Try.prog 34 #[.pointer (some ⟨c, 0, none⟩)] w fun e w' => NextEnd w N ga c m L B ts nf e w') := K
  clear hmem hcur hrep hdone K hnf
  go_enter Try.func22, Try.ntmps22
  go_wp2_with fail
  refine HK.out.mono ?_
  rintro e w' ⟨vr, va, rfl, h2, h3, h4⟩
  have H : Hid (NextEnd w N ga c m L B ts nf (.returned (.tuple #[.int .i64 0, .slice none 0 0, .bool false])) w') := ⟨vr, va, rfl, h2, h3, h4⟩
  clear h2 h3 h4
  go_wp2
  go_ret3
  exact H.out

theorem place24 (c l cc la lc : Nat) (a aa : Option Addr) (ts : Int) (w : World) (_hla : la ≤ 65536) (hcur : Cur w c (.slice a l cc) (.slice aa la lc) ts) :
    Calls Try.prog 24 #[.pointer (some ⟨c, 0, none⟩)] w fun e w' => e = .returned (.tuple #[.slice a l cc, .int .i64 (la : Int), .int .i64 ts]) ∧ ∃ nq, w' = w.drewN nq := by
  obtain ⟨c0, c1, c2, cf, clt⟩ := cur_cells hcur
  clear hcur cf
  go_enter Try.func24, Try.ntmps24
  go_wp2
  go_quiet (fail)
  go_wp2
  go_ret3
  exact ⟨rfl, nq, rfl⟩

set_option maxHeartbeats 400000 in
theorem eq23 (a b : Option Addr) (len ca cb Na Nb : Nat) (C : Nat → Int) (w : World) (hlen : len ≤ 2000000) (ha : RowN w Na a len C) (hb : RowN w Nb b len C) :
    Calls Try.prog 23 #[.slice a len ca, .slice b len cb] w fun e w' => e = .returned (.bool true) ∧ ∃ nq, w' = w.drewN nq := by
  have HA : Hid (RowN w Na a len C) := ha
  have HB : Hid (RowN w Nb b len C) := hb
  clear ha hb
  go_enter Try.func23, Try.ntmps23
  go_wp2
  go_loopw [5] (fun vk wr => ∃ k nq : Nat, k ≤ len ∧ vk = .int .i64 (k : Int) ∧ wr = w.drewN nq) (fun vk _ => len - (intOf vk).toNat)
  case atStart => exact ⟨0, 0, Nat.zero_le _, rfl, rfl⟩
  case round =>
    obtain ⟨k, nq, hk, rfl, rfl⟩ := hrel
    by_cases hlt : k < len
    · obtain ⟨b1, o1, e1, _, h1⟩ := HA.out.2 (by omega)
      obtain ⟨b2, o2, e2, _, h2⟩ := HB.out.2 (by omega)
      subst e1
      subst e2
      have g1 := h1 k hlt
      have g2 := h2 k hlt
      have hlt1 : (k : Int) < (len : Int) := by omega
      clear h1 h2
      go_wp2
      go_quiet (fail)
      go_wp2
      go_roundw
      case rel => exact ⟨k + 1, _, by omega, by go_num, rfl⟩
      case measure => simp [intOf]; omega
    · go_wp2
      go_ret
      exact ⟨rfl, nq, rfl⟩
end Go.Proofs.Qxb6602753a
