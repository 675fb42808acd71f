/-
  THE CONTRACTS OF pieceAt (32) AND parseHistory (18).
-/
import Derived.Test.Qxb6602753aRecWalk
import Derived.WalkSmall
namespace Go.Proofs.Qxb6602753a
open Go.RowKit Go.ChangeShapes Go.WideShapes Go.ChangeAt
open Uv

theorem p32 (a1 : Option Addr) (m c1 : Nat) (A : Nat → Option Addr) (L C : Nat → Nat) (B : Nat → Nat → Int) (k : Nat) (K : Int) (w : World) (hK : K = (k : Int)) (hin : HIn w a1 m A L C B) (hk : k ≤ m) :
    Calls Try.prog 32 #[.slice (A 0) (L 0) (C 0), .slice a1 m c1, .int .i64 K] w fun e w' => e = .returned (.slice (A k) (L k) (C k)) ∧ w' = w := by
  subst hK
  have hm := hin.mlt
  cases k with
  | zero =>
    clear hin
    go_enter Try.func32, Try.ntmps32
    go_wp2
    go_ret
    exact ⟨rfl, rfl⟩
  | succ k =>
    obtain ⟨b, off, rfl, hblt, hcP⟩ := hin.top (by omega)
    have hck := hcP k (by omega)
    have hz : (((k + 1 : Nat) : Int) == 0) = false := by simp; omega
    clear hcP hin
    go_enter Try.func32, Try.ntmps32
    go_wp2
    go_ret
    exact ⟨rfl, rfl⟩

/-- The cells of the versions, the oldest first. -/
def verCells : List Rc → List Value
  | [] => []
  | r :: rs => verCells rs ++ [.int .i64 r.ts, .slice r.a r.n r.c]

/-- Where the reader stands behind the versions rs: place p of piece k. -/
def At (L : Nat → Nat) (k p : Nat) (rs : List Rc) : Prop :=
  (k = endK rs ∧ p = endP rs) ∨ (endK rs < k ∧ endP rs = L (endK rs) ∧ (∀ j, endK rs < j → j < k → L j = 0) ∧ p = 0)

theorem At.next {L : Nat → Nat} {k : Nat} {rs : List Rc} (h : At L k (L k) rs) : At L (k + 1) 0 rs := by
  rcases h with ⟨h1, h2⟩ | ⟨h1, h2, h3, h4⟩
  · exact .inr ⟨by omega, by rw [← h1, ← h2], fun j _ _ => by omega, rfl⟩
  · refine .inr ⟨by omega, h2, fun j g1 g2 => ?_, rfl⟩
    by_cases e : j = k
    · rw [e]; exact h4
    · exact h3 j g1 (by omega)

theorem At.done {L : Nat → Nat} {B : Nat → Nat → Int} {m : Nat} {prev : Int} {rs : List Rc} (h : At L (m + 1) 0 rs) (hh : Hist L B m prev rs) : Done L m (endK rs) (endP rs) := by
  have := endK_le hh
  rcases h with ⟨h1, _⟩ | ⟨_, h2, h3, _⟩
  · omega
  · exact ⟨h2, fun j g1 g2 => h3 j g1 (by omega)⟩

/-- What has been parsed: the versions rs, in the row that v owns. -/
structure PSt (w : World) (L : Nat → Nat) (B : Nat → Nat → Int) (m : Nat) (prev : Int) (rs : List Rc) (v : Value) (wr : World) : Prop where
  hist : Hist L B m prev rs
  own : wr.ownsRow w.heap.size 44 2 v rs.length (verCells rs)
  bod : ∀ r, r ∈ rs → Row8 w r.a r.n (fun j => B r.k (r.s + j)) ∧ r.n ≤ r.c
  bel : Below w.heap.size w wr

def PRes (w : World) (L : Nat → Nat) (B : Nat → Nat → Int) (m : Nat) (prev : Int) (e : Ending) (w' : World) : Prop :=
  (e = .returned (.tuple #[.slice none 0 0, .int .i64 0, .bool false]) ∧ Below w.heap.size w w') ∨
  ∃ rs v, PSt w L B m prev rs v w' ∧ Done L m (endK rs) (endP rs) ∧ e = .returned (.tuple #[v, .int .i64 (endT prev rs), .bool true])

theorem Try.info44 : (Try.prog.info? 44).map (fun i => (i.zero, i.size, i.bytes)) = some (some (.agg #[.int .i64 0, .slice none 0 0]), 2, 32) := by kernel_rfl

theorem PSt.drewN {w wr : World} {L : Nat → Nat} {B : Nat → Nat → Int} {m : Nat} {prev : Int} {rs : List Rc} {v : Value} (h : PSt w L B m prev rs v wr) (n : Nat) : PSt w L B m prev rs v (wr.drewN n) :=
  ⟨h.hist, ⟨h.own.1, h.own.2⟩, h.bod, below_drewN h.bel n⟩

theorem PSt.step {w wr w1 : World} {L : Nat → Nat} {B : Nat → Nat → Int} {m : Nat} {prev : Int} {rs : List Rc} {v v' : Value} {k p s n c nq : Nat} {d : Int} {a : Option Addr} {O : Obj} (h : PSt w L B m prev rs v wr) (hat : At L k p rs) (hk : k ≤ m) (hp : p < L k)
    (hrec : Rec (B k) (L k) p d s n) (hrow : Row8 w a n fun i => B k (s + i)) (hnc : n ≤ c)
    (hown : w1.ownsRow w.heap.size 44 2 v' (rs.length + 1) (verCells rs ++ [.int .i64 (wrap64 (endT prev rs + wrap64 d)), .slice a n c])) (hgrow : ((wr.drewN nq).alloc O).grownBy w1 v.ownBlock) :
    PSt w L B m prev (⟨k, p, s, n, d, tadd (endT prev rs) d, a, c⟩ :: rs) v' w1 := by
  refine ⟨⟨h.hist, ?_, hk, hp, hrec, rfl⟩, hown, ?_, ?_⟩
  · rcases hat with ⟨h1, h2⟩ | ⟨h1, h2, h3, h4⟩
    · exact .inl ⟨h1, h2⟩
    · exact .inr ⟨h1, h2, h3, h4⟩
  · intro r hr
    rcases List.mem_cons.1 hr with rfl | hr
    · exact ⟨hrow, hnc⟩
    · exact h.bod r hr
  · have hb := below_drewN h.bel nq
    refine (hb.alloc hb.size O).grown hgrow (by have := hb.size; simp at this; simp; omega) (fun j hj => ?_)
    rcases h.own.2 with ⟨hv, _⟩ | ⟨g, cap, cur, hv, hg, _⟩
    · rw [hv] at hj; cases hj
    · rw [hv] at hj; cases hj; exact hg

theorem cells_two_new (w : World) (x y : Value) (t : TypeId) : ∀ (j : Nat) (u : Value), [x, y][j]? = some u → (w.alloc (.cells #[x, y] t)).cell? ((⟨w.heap.size, 0, none⟩ : Addr).add j) = some u := by
  intro j u hj
  rw [add_plain, Nat.zero_add]
  have hh : (w.alloc (.cells #[x, y] t)).heap[w.heap.size]? = some (.cells [x, y].toArray t (0, 0)) := heap_alloc_new w _
  rw [cell_of_row hh]
  exact hj

set_option maxHeartbeats 1600000 in
theorem h18 (a1 : Option Addr) (m c1 : Nat) (A : Nat → Option Addr) (L C : Nat → Nat) (B : Nat → Nat → Int) (prev : Int) (w : World) (hin : HIn w a1 m A L C B) (hm : m ≤ 65536) (htot : tot L (m + 1) ≤ 1048576) :
    Calls Try.prog 18 #[.slice (A 0) (L 0) (C 0), .slice a1 m c1, .int .i64 prev] w fun e w' => PRes w L B m prev e w' := by
  obtain ⟨i0, hi, hz0, hz1, hz2⟩ := info_parts Try.info44
  have HI : Hid (HIn w a1 m A L C B) := hin
  have HT : Hid (tot L (m + 1) ≤ 1048576) := htot
  clear hin htot
  go_enter Try.func18, Try.ntmps18
  go_wp2
  go_loopw [9, 10, 11] (fun v vt vk wr => ∃ (rs : List Rc) (k : Nat), k ≤ m + 1 ∧ vk = .int .i64 (k : Int) ∧ vt = .int .i64 (endT prev rs) ∧ At L k 0 rs ∧ PSt w L B m prev rs v wr) (fun _ _ vk _ => m + 1 - (intOf vk).toNat)
  case atStart => exact ⟨[], 0, Nat.zero_le _, rfl, rfl, .inl ⟨rfl, rfl⟩, ⟨trivial, World.ownsRow_nil _ _ _ _, (fun r hr => by cases hr), Below.refl _ _⟩⟩
  case round =>
    obtain ⟨rs, k, hk, rfl, rfl, hat, hst⟩ := hrel
    have HA : Hid (At L k 0 rs) := hat
    have HS : Hid (PSt w L B m prev rs u9 wr) := hst
    clear hat hst
    by_cases hlt : k ≤ m
    · have HIr : Hid (HIn wr a1 m A L C B) := HI.out.below HS.out.bel
      by_cases hL : L k = 0
      · have hK32 : ∀ (K : Int) (hK : K = (k : Int)), Hid (Calls Try.prog 32 #[.slice (A 0) (L 0) (C 0), .slice a1 m c1, .int .i64 K] wr fun e w' => e = .returned (.slice (A k) 0 (C k)) ∧ w' = wr) := by
          intro K hK
          have := p32 a1 m c1 A L C B k K wr hK HIr.out hlt
          rw [hL] at this
          exact this
        have HA2 : Hid (At L (k + 1) 0 rs) := At.next (by rw [hL]; exact HA.out)
        clear hL
        go_wp2_with fail
        refine (hK32 _ rfl).out.mono ?_
        rintro e w1 ⟨rfl, rfl⟩
        go_wp2
        refine wp_loop_rounds 1 ?_
        rw [rounds_succ]
        go_wp2
        go_roundw
        case rel => exact ⟨rs, k + 1, by omega, by go_num, rfl, HA2.out, HS.out⟩
        case measure => simp [intOf]; omega
      · have hrow := HI.out.row k hlt
        have hcapk := HI.out.cap k hlt
        obtain ⟨b, off, hAk, hblt, hcells⟩ := hrow.2 (by omega)
        have hbds := hrow.1
        have htk : tot L (k + 1) ≤ 1048576 := Nat.le_trans (tot_mono L (by omega)) HT.out
        rw [tot] at htk
        obtain ⟨lk, hlk⟩ : ∃ lk, lk = L k := ⟨_, rfl⟩
        obtain ⟨ck, hck⟩ : ∃ ck, ck = C k := ⟨_, rfl⟩
        have hK32 : ∀ (K : Int) (hK : K = (k : Int)), Hid (Calls Try.prog 32 #[.slice (A 0) (L 0) (C 0), .slice a1 m c1, .int .i64 K] wr fun e w' => e = .returned (.slice (some ⟨b, off, none⟩) lk ck) ∧ w' = wr) := by
          intro K hK
          have := p32 a1 m c1 A L C B k K wr hK HIr.out hlt
          rw [hAk, ← hlk, ← hck] at this
          exact this
        have hll : lk ≤ 1048576 := by omega
        have hlc : lk ≤ ck ∧ ck ≤ 9223372036854775807 := by rw [hlk, hck]; exact hcapk
        have hpos : 0 < lk := by omega
        have HLK : Hid (lk = L k) := hlk
        have HC : Hid (∀ i, i < lk → w.cell? ⟨b, off + i, none⟩ = some (.int .u8 (B k i))) := by rw [hlk]; exact hcells
        have HBD : Hid (∀ i, i < lk → 0 ≤ B k i ∧ B k i < 256) := by rw [hlk]; exact hbds
        clear hrow hcapk hAk hcells hbds htk hL hlk hck
        go_wp2_with fail
        refine (hK32 _ rfl).out.mono ?_
        rintro e w1 ⟨rfl, rfl⟩
        obtain ⟨wo, rfl⟩ : ∃ wo : World, wo = w1 := ⟨_, rfl⟩
        go_wp2
        go_loopw [9, 10, 13] (fun v vt vp wr => ∃ (rs : List Rc) (p : Nat), p ≤ lk ∧ vp = .int .i64 (p : Int) ∧ vt = .int .i64 (endT prev rs) ∧ At L k p rs ∧ PSt w L B m prev rs v wr) (fun _ _ vp _ => lk - (intOf vp).toNat)
        case atStart => exact ⟨rs, 0, Nat.zero_le _, rfl, rfl, HA.out, HS.out⟩
        case round =>
          clear HA HS
          obtain ⟨rs, p, hp, rfl, rfl, hat, hst⟩ := hrel
          have HA : Hid (At L k p rs) := hat
          clear hat
          by_cases hpl : p < lk
          · have HS : Hid (PSt w L B m prev rs u9 wr) := hst
            clear hst
            have HK33 : ∀ (P : Int) (hP : P = (p : Int)), Hid (Calls Try.prog 33 #[.slice (some ⟨b, off, none⟩) lk ck, .int .i64 P] wr fun e w' => ∃ nq, w' = wr.drewN nq ∧
                (e = .returned (.tuple #[.int .u64 0, .slice none 0 0, .int .i64 0, .bool false]) ∨
                 ∃ (d : Int) (s n : Nat) (a : Option Addr) (c : Nat), Rec (B k) lk p d s n ∧ n ≤ c ∧ c ≤ ck ∧ (0 < n → a = some ⟨b, off + s, none⟩) ∧
                   e = .returned (.tuple #[.int .u64 d, .slice a n c, .int .i64 ((s + n : Nat) : Int), .bool true]))) := fun P hP =>
              p33 b off lk ck p P (B k) wr hP hll hpl hlc.1 hlc.2 (fun i hi => by rw [HS.out.bel.cell (by exact hblt)]; exact HC.out i hi) HBD.out
            go_wp2_with fail
            refine (HK33 _ rfl).out.mono ?_
            rintro e w2 ⟨nq, rfl, (rfl | ⟨d, s, n, a, c, hrec, hnc, hcc, hrow, rfl⟩)⟩
            · clear HK33 hK32
              go_wp2
              go_ret3
              exact .inl ⟨rfl, below_drewN HS.out.bel nq⟩
            · clear HK33 hK32
              have hlen := hist_len HS.out.hist
              have hbnd : rs.length ≤ 1048576 := by
                have h1 := endK_le HS.out.hist
                have h2 := endP_le HS.out.hist
                have h3 : tot L (endK rs + 1) ≤ tot L (m + 1) := tot_mono L (by omega)
                rw [tot] at h3
                have := HT.out
                omega
              have HR : Hid (Rec (B k) lk p d s n) := hrec
              have hlt2 := hrec.lt
              have HW : Hid (Row8 w a n fun i => B k (s + i)) := by
                refine ⟨fun i hi => HBD.out _ (by omega), fun h => ⟨b, off + s, hrow h, hblt, fun i hi => ?_⟩⟩
                rw [Nat.add_assoc]
                exact HC.out _ (by omega)
              clear hrec hrow hlen hlt2
              go_wp2_with (at_builtin; refine wpList_append_own _ rfl _ _ 34 rfl w.heap.size 44 i0 (.agg #[.int .i64 0, .slice none 0 0]) 2 32 Try.underlying34 hi hz0 hz1 hz2 rfl (by decide) _ _ _ rfl ((HS.out.drewN nq).own.alloc _) ⟨wr.heap.size, 0, none⟩ 1 1 [.int .i64 (wrap64 (endT prev rs + wrap64 d)), .slice a n c] rfl rfl ?c1 ?c2 ?c3 ?c4 ?c5 ?_)
              case c1 => exact cells_two_new (wr.drewN nq) _ _ _
              case c2 => intro u hu; simp at hu; rcases hu with rfl | rfl <;> rfl
              case c3 => unfold maxLen; omega
              case c4 => omega
              case c5 => have := HS.out.bel.size; simp; omega
              intro v' w1 hown' hgrow _
              have HN : Hid (PSt w L B m prev (⟨k, p, s, n, d, tadd (endT prev rs) d, a, c⟩ :: rs) v' w1) :=
                HS.out.step HA.out hlt (by have := HLK.out; omega) (by have := HR.out; rw [HLK.out] at this; exact this) HW.out hnc hown' hgrow
              have hsn : s + n ≤ lk := HR.out.lt.2
              have hps : p + 2 ≤ s := HR.out.lt.1
              clear hown' hgrow
              go_wp2
              go_roundw
              case rel => exact ⟨_, s + n, hsn, by go_num, rfl, .inl ⟨rfl, rfl⟩, HN.out⟩
              case measure => simp [intOf]; omega
          · obtain rfl : p = lk := by omega
            have HA2 : Hid (At L (k + 1) 0 rs) := At.next (by have := HA.out; rw [HLK.out] at this; exact this)
            have HS : Hid (PSt w L B m prev rs u9 wr) := hst
            clear hst
            go_wp2
            go_roundw
            case rel => exact ⟨rs, k + 1, by omega, by go_num, rfl, HA2.out, HS.out⟩
            case measure => simp [intOf]; omega
    · obtain rfl : k = m + 1 := by omega
      go_wp2
      go_ret3
      exact .inr ⟨rs, _, HS.out, HA.out.done HS.out.hist, rfl⟩
end Go.Proofs.Qxb6602753a
