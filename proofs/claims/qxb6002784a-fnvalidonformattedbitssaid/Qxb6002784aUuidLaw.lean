/-
  THE WALK OF FnValidOnFormattedBits (4).
-/
import Derived.Test.Qxb6002784aLawPlain
import Derived.Test.Qxb6002784aFmtWalk
import Derived.WalkSmall
import Derived.Deep.QuietTactic
import Derived.BigQuiet
namespace Go.Proofs.Qxb6002784a
open Go.RowKit Go.ChangeShapes Go.WideShapes Go.ChangeAt

/-- Block g, a row of 'tot' bytes of the call's own, holds C at its first m places. -/
def Fil (w : World) (g tot : Nat) (C : Nat → Int) (m : Nat) : Prop :=
  ∃ xs, w.ownsRow g 5 1 (.slice (some ⟨g, 0, none⟩) tot tot) tot xs ∧ xs.length = tot ∧ ∀ k, k < m → xs[k]? = some (.int .u8 (C k))
theorem Fil.cell {w : World} {g tot m : Nat} {C : Nat → Int} (h : Fil w g tot C m) (k : Nat) (hk : k < tot) : ∃ v, w.cell? ⟨g, k, none⟩ = some v := by
  obtain ⟨xs, ho, hl, _⟩ := h
  rw [ho.cellAt k (by omega)]
  exact ⟨_, List.getElem?_eq_getElem (by omega)⟩
theorem Fil.froz {w : World} {g tot m : Nat} {C : Nat → Int} (h : Fil w g tot C m) (k : Nat) : w.frozen? ⟨g, k, none⟩ = false := by
  obtain ⟨xs, ho, _⟩ := h
  exact ho.frozenAt k
theorem Fil.get {w : World} {g tot m : Nat} {C : Nat → Int} (h : Fil w g tot C m) (hm : m ≤ tot) (k : Nat) (hk : k < m) : w.cell? ⟨g, k, none⟩ = some (.int .u8 (C k)) := by
  obtain ⟨xs, ho, hl, hx⟩ := h
  rw [ho.cellAt k (by omega)]
  exact hx k hk
theorem Fil.step {w : World} {g tot m : Nat} {C : Nat → Int} (h : Fil w g tot C m) (hm : m < tot) {u : Int} (hu : u = C m) : Fil (w.setCell ⟨g, m, none⟩ (.int .u8 u)) g tot C (m + 1) := by
  obtain ⟨xs, ho, hl, hx⟩ := h
  subst hu
  refine ⟨_, (ho.stored m (.int .u8 (C m))).1, by rw [List.length_set]; exact hl, fun k hk => ?_⟩
  by_cases e : k = m
  · subst e
    rw [List.getElem?_set_self (by omega)]
  · rw [List.getElem?_set_ne (by omega)]
    exact hx k (by omega)
theorem fil_make (n : Nat) (C : Nat → Int) (hn : n ≤ 2000000) (w : World) :
    ∃ W, (Instr.makeSlice 26 (.int .i64 (n : Int)) (.int .i64 (n : Int))).run Try.prog w = .ok (.slice (some ⟨w.heap.size, 0, none⟩) n n) W ∧ Fil W w.heap.size n C 0 ∧ Below w.heap.size w W := by
  obtain ⟨i0, hi, hz0, hz1, hz2⟩ := info_parts Try.info5
  obtain ⟨W, hmk, hown, hgr⟩ := run_make_full (P := Try.prog) w w.heap.size 26 5 i0 (.int .u8 0) 1 Try.underlying26 hi hz0 hz1 .i64 .i64 n (by rw [hz2]; omega) (by unfold maxLen; omega) (Nat.le_refl _)
  exact ⟨W, hmk, ⟨_, hown, by rw [hown.1, Nat.mul_one], fun k hk => by omega⟩, (Below.refl _ _).grown hgr (Nat.le_refl _) (fun k hk => by cases hk)⟩

theorem Fil.drewN {w : World} {g tot m : Nat} {C : Nat → Int} (h : Fil w g tot C m) (n : Nat) : Fil (w.drewN n) g tot C m := h

theorem cut_size (u : ByteArray) (k : Nat) (h : k < u.size) : (u.extract 0 k ++ u.extract (k + 1) u.size).size = u.size - 1 := by
  rw [ByteArray.size_append, ByteArray.size_extract, ByteArray.size_extract]
  omega
theorem put_size (u : ByteArray) (k : Nat) (h : k ≤ u.size) : (u.extract 0 k ++ { data := #[48] } ++ u.extract k u.size).size = u.size + 1 := by
  have e : (⟨#[48]⟩ : ByteArray).size = 1 := rfl
  rw [ByteArray.size_append, ByteArray.size_append, ByteArray.size_extract, ByteArray.size_extract, e]
  omega
theorem Fil.text {w : World} {g : Nat} {u : ByteArray} (h : Fil w g u.size (fun j => upc (cB u j)) u.size) :
    ∃ T : ByteArray, (convert 26 9 (.slice (some ⟨g, 0, none⟩) u.size u.size)).run Try.prog w = .ok (.string T) w ∧ T.size = u.size ∧ ∀ j, j < u.size → cB T j = upc (cB u j) := by
  have hl : ((List.range u.size).map fun j => upc (cB u j)).length = u.size := by simp
  have hcell : ∀ i, i < u.size → w.cell? ⟨g, 0 + i, none⟩ = some (.int .u8 (((List.range u.size).map fun j => upc (cB u j)).getD i 0)) := by
    intro i hi
    rw [Nat.zero_add, h.get (Nat.le_refl _) i hi]
    simp [List.getD, hi]
  have hcv := run_convert_bytes_arg (P := Try.prog) w 26 5 Try.underlying26 Try.underlying5 g 0 u.size u.size _ hl hcell 9 Try.underlying9
  refine ⟨_, hcv, by rw [strOfNums_size]; simp, fun j hj => ?_⟩
  have hlt : j < (strOfNums ((List.range u.size).map fun j => upc (cB u j))).size := by rw [strOfNums_size]; simpa using hj
  rw [cB_at hlt]
  have hb : ((strOfNums ((List.range u.size).map fun j => upc (cB u j)))[j]'hlt) = UInt8.ofNat (upc (cB u j)).toNat := by
    show (((List.range u.size).map fun j => upc (cB u j)).map fun n => UInt8.ofNat n.toNat).toArray[j]'_ = _
    simp
  rw [hb]
  have h1 : 0 ≤ upc (cB u j) ∧ upc (cB u j) < 256 := by
    rw [cB_at hj]
    have := (u[j]'hj).toNat_lt
    unfold upc
    split <;> omega
  simp [UInt8.toNat_ofNat']
  omega

/-- What the law's own flag holds behind k rounds. -/
def LetV (u : ByteArray) (k : Nat) (v : Value) : Prop := ∃ b : Bool, v = .bool b ∧ (b = true → ∃ i, i < k ∧ 97 ≤ cB u i ∧ cB u i ≤ 102)

theorem LetV.up {u : ByteArray} {k : Nat} {v : Value} (h : LetV u k v) : LetV u (k + 1) v := by
  obtain ⟨b, hv, hb⟩ := h
  refine ⟨b, hv, fun e => ?_⟩
  obtain ⟨i, h1, h2⟩ := hb e
  exact ⟨i, by omega, h2⟩

set_option maxHeartbeats 3200000 in
theorem law4 (hi lo : Int) (w : World) (h0 : 0 ≤ hi) (h1 : hi < 18446744073709551616) (l0 : 0 ≤ lo) (l1 : lo < 18446744073709551616) :
    Calls Try.prog 4 #[.int .u64 hi, .int .u64 lo] w fun e w' => e = .returned (.bool true) ∧ Below w.heap.size w w' := by
  have HH : Hid (0 ≤ hi ∧ hi < 18446744073709551616 ∧ 0 ≤ lo ∧ lo < 18446744073709551616) := ⟨h0, h1, l0, l1⟩
  have hw := raw_want hi lo h0 l0 l1
  obtain ⟨raw, hraw⟩ : ∃ raw, raw = text fun i => hexc (nib hi lo i) := ⟨_, rfl⟩
  have HK8 : Hid (Calls Try.prog 8 #[.int .u64 hi, .int .u64 lo] w fun e w' => e = .returned (.string raw) ∧ Below w.heap.size w w') := by rw [hraw]; exact f8 hi lo w h0 h1 l0 l1
  have HRS : Hid (raw.size = 36) := by rw [hraw]; exact text_size _
  have HRV : Hid (Vd raw ↔ hi / 4096 % 16 = 7 ∧ lo / 4611686018427387904 = 2) := by rw [hraw]; exact hw
  clear h0 h1 l0 l1 hw hraw
  have hand : bits .and .u64 (hi / 4096) 15 = hi / 4096 % 16 := and15 _ (by have := HH.out; omega) (by have := HH.out; omega)
  have hcase : ((bits .and .u64 (hi / 4096) 15 == 7) = true ∧ (lo / 4611686018427387904 == 2) = true ∧ ∀ w', Hid (Calls Try.prog 6 #[.string raw] w' fun e w'' => e = .returned (.bool true) ∧ w'' = w')) ∨
      ((bits .and .u64 (hi / 4096) 15 == 7) = true ∧ (lo / 4611686018427387904 == 2) = false ∧ ∀ w', Hid (Calls Try.prog 6 #[.string raw] w' fun e w'' => e = .returned (.bool false) ∧ w'' = w')) ∨
      ((bits .and .u64 (hi / 4096) 15 == 7) = false ∧ True ∧ ∀ w', Hid (Calls Try.prog 6 #[.string raw] w' fun e w'' => e = .returned (.bool false) ∧ w'' = w')) := by
    rw [hand]
    by_cases h7 : hi / 4096 % 16 = 7
    · by_cases h2 : lo / 4611686018427387904 = 2
      · exact .inl ⟨beq_iff_eq.2 h7, beq_iff_eq.2 h2, fun w' => v6_yes raw w' (HRV.out.2 ⟨h7, h2⟩)⟩
      · exact .inr (.inl ⟨beq_iff_eq.2 h7, beq_eq_false_iff_ne.2 h2, fun w' => v6_no raw w' HRS.out (fun h => h2 (HRV.out.1 h).2)⟩)
    · exact .inr (.inr ⟨beq_eq_false_iff_ne.2 h7, trivial, fun w' => v6_no raw w' HRS.out (fun h => h7 (HRV.out.1 h).1)⟩)
  clear hand HRS HRV
  rcases hcase with ⟨hA, hB, HKR⟩ | ⟨hA, hB, HKR⟩ | ⟨hA, hB, HKR⟩
  all_goals
    go_enter Try.func4, Try.ntmps4
    go_wp2_with fail
    refine HK8.out.mono ?_
    rintro e w1 ⟨rfl, hb1⟩
    have HB1 : Hid (Below w.heap.size w w1) := hb1
    clear hb1 HK8
    go_wp2_with fail
    clear hA hB
    obtain ⟨f0, f1, f2⟩ := force_hi hi HH.out.1 HH.out.2.1
    obtain ⟨g0, g1, g2, g3⟩ := force_lo lo HH.out.2.2.1 HH.out.2.2.2
    generalize bits .or .u64 (bits .andNot .u64 hi 61440) 28672 = FH at *
    generalize bits .or .u64 (bits .andNot .u64 lo 13835058055282163712) 9223372036854775808 = FL at *
    generalize bits .andNot .u64 lo 13835058055282163712 = FX at *
    have hvd : Vd (text fun i => hexc (nib FH FL i)) := (vd_text FH FL).2 ⟨by rw [nib12]; exact f2, by rw [nib16]; exact ⟨g2, g3⟩⟩
    obtain ⟨u, hu⟩ : ∃ u, u = text fun i => hexc (nib FH FL i) := ⟨_, rfl⟩
    have HK8 : Hid (Calls Try.prog 8 #[.int .u64 FH, .int .u64 FL] w1 fun e w' => e = .returned (.string u) ∧ Below w1.heap.size w1 w') := by rw [hu]; exact f8 FH FL w1 f0 f1 g0 g1
    rw [← hu] at hvd
    have HVU : Hid (Vd u) := hvd
    have hs1 : u.size ≤ 36 := by rw [hvd.1]; omega
    have hs2 : 36 ≤ u.size := by rw [hvd.1]; omega
    clear f0 f1 f2 g0 g1 g2 g3 hvd hu
    refine HK8.out.mono ?_
    rintro e w2 ⟨rfl, hb2⟩
    have HB2 : Hid (Below w.heap.size w w2) := HB1.out.trans (hb2.mono HB1.out.size)
    clear hb2 HK8 HB1
    obtain ⟨w3, hmk, hfil, hb3⟩ := fil_make u.size (fun j => upc (cB u j)) (by omega) w2
    have HF3 : Hid (Fil w3 w2.heap.size u.size (fun j => upc (cB u j)) 0) := hfil
    have HB3 : Hid (Below w.heap.size w w3) := HB2.out.trans (hb3.mono HB2.out.size)
    clear hfil hb3
    go_wp2
    clear hmk
    go_loopg [11, 12] u.size (fun gk v11 vi wr => ∃ k : Nat, k + gk = u.size ∧ vi = .int .i64 (k : Int) ∧ LetV u k v11 ∧ Fil wr w2.heap.size u.size (fun j => upc (cB u j)) k ∧ Below w.heap.size w wr)
    case atStart => exact ⟨0, Nat.zero_add _, rfl, ⟨false, rfl, fun h => by cases h⟩, HF3.out, HB3.out⟩
    case round =>
      clear HF3 HB3
      obtain ⟨k, hk, rfl, hlv, hfil, hbel⟩ := hrel
      have HK : Hid (k + gk = u.size) := hk
      have hkle : k ≤ u.size := by omega
      have HL : Hid (LetV u k u11) := hlv
      have HF : Hid (Fil wr w2.heap.size u.size (fun j => upc (cB u j)) k) := hfil
      have HB : Hid (Below w.heap.size w wr) := hbel
      clear hk hlv hfil hbel
      by_cases hlt : k < u.size
      · obtain ⟨ov, hcell⟩ := HF.out.cell k hlt
        have hfr := HF.out.froz k
        have HC : Hid (cB u k = ((u[k]'hlt).toNat : Int)) := cB_at hlt
        have hc0 : (0 : Int) ≤ ((u[k]'hlt).toNat : Int) := by omega
        have hc1 : ((u[k]'hlt).toNat : Int) < 256 := by have := (u[k]'hlt).toNat_lt; omega
        by_cases c97 : (97 : Int) ≤ ((u[k]'hlt).toNat : Int)
        · by_cases c102 : ((u[k]'hlt).toNat : Int) ≤ 102
          · go_wp2
            go_roundg (gk - 1)
            case measure => have := HK.out; omega
            case rel =>
              refine ⟨k + 1, by have := HK.out; omega, by go_num, ⟨true, rfl, fun _ => ⟨k, by omega, by rw [HC.out]; exact c97, by rw [HC.out]; exact c102⟩⟩, ?_, HB.out.setCell ?_ _⟩
              · refine HF.out.step hlt ?_
                show _ = upc (cB u k)
                rw [HC.out]; unfold upc; rw [if_pos ⟨c97, c102⟩]; omega
              · exact HB2.out.size
          · have c102' : decide (((u[k]'hlt).toNat : Int) ≤ 102) = false := decide_eq_false c102
            go_wp2
            go_roundg (gk - 1)
            case measure => have := HK.out; omega
            case rel =>
              refine ⟨k + 1, by have := HK.out; omega, by go_num, HL.out.up, ?_, HB.out.setCell ?_ _⟩
              · refine HF.out.step hlt ?_
                show _ = upc (cB u k)
                rw [HC.out]; unfold upc; rw [if_neg (fun h => by omega)]
              · exact HB2.out.size
        · have c97' : decide ((97 : Int) ≤ ((u[k]'hlt).toNat : Int)) = false := decide_eq_false c97
          go_wp2
          go_roundg (gk - 1)
          case measure => have := HK.out; omega
          case rel =>
            refine ⟨k + 1, by have := HK.out; omega, by go_num, HL.out.up, ?_, HB.out.setCell ?_ _⟩
            · refine HF.out.step hlt ?_
              show _ = upc (cB u k)
              rw [HC.out]; unfold upc; rw [if_neg (fun h => by omega)]
            · exact HB2.out.size
      · obtain rfl : k = u.size := by omega
        clear HK
        go_wp2_with fail
        refine (HKR _).out.mono ?_
        rintro e w' ⟨rfl, rfl⟩
        go_wp2_with fail
        refine (v6_yes u _ HVU.out).mono ?_
        rintro e w' ⟨rfl, rfl⟩
        go_wp2_with fail
        go_loopg [14] u.size (fun gk vi wr => ∃ k : Nat, k + gk = u.size ∧ vi = .int .i64 (k : Int) ∧ Fil wr w2.heap.size u.size (fun j => upc (cB u j)) u.size ∧ Below w.heap.size w wr)
        case atStart => exact ⟨0, Nat.zero_add _, rfl, HF.out, HB.out⟩
        case round =>
          clear HF HB
          obtain ⟨k, hk, rfl, hfil, hbel⟩ := hrel
          have HK : Hid (k + gk = u.size) := hk
          have hkle : k ≤ u.size := by omega
          have HF : Hid (Fil wr w2.heap.size u.size (fun j => upc (cB u j)) u.size) := hfil
          have HB : Hid (Below w.heap.size w wr) := hbel
          clear hk hfil hbel
          by_cases hlt : k < u.size
          · have i0 : (0 : Int) ≤ (k : Int) := by omega
            have i1 : (k : Int) < (u.size : Int) := by omega
            have i2 : (k : Int) ≤ (u.size : Int) := by omega
            have wk : IntKind.i64.wrap ((k : Int) + 1) = (k : Int) + 1 := by rw [IntKind.wrap_i64]; omega
            have hz := cut_size u k hlt
            have HZ1 : Hid ((u.extract 0 k ++ u.extract (k + 1) u.size).size ≠ 36) := by show ¬ _; omega
            have HZ2 : Hid ((u.extract 0 k ++ u.extract (k + 1) u.size).size ≤ 1000) := by show _ ≤ _; omega
            clear hz
            go_wp2_with fail
            go_quiet ((go_at_call 6; exact Calls.quiet_of_same (v6_len _ _ HZ1.out HZ2.out)))
            go_wp2
            go_roundg (gk - 1)
            case measure => have := HK.out; omega
            case rel => exact ⟨k + 1, by have := HK.out; omega, by go_num, HF.out.drewN _, below_drewN HB.out _⟩
          · obtain rfl : k = u.size := by omega
            clear HK
            go_wp2_with fail
            go_loopg [15] (u.size + 1) (fun gk vi wr => ∃ k : Nat, k + gk = u.size + 1 ∧ vi = .int .i64 (k : Int) ∧ Fil wr w2.heap.size u.size (fun j => upc (cB u j)) u.size ∧ Below w.heap.size w wr)
            case atStart => exact ⟨0, Nat.zero_add _, rfl, HF.out, HB.out⟩
            case round =>
              clear HF HB
              obtain ⟨k, hk, rfl, hfil, hbel⟩ := hrel
              have HK : Hid (k + gk = u.size + 1) := hk
              have hkle' : k ≤ u.size + 1 := by omega
              have HF : Hid (Fil wr w2.heap.size u.size (fun j => upc (cB u j)) u.size) := hfil
              have HB : Hid (Below w.heap.size w wr) := hbel
              clear hk hfil hbel
              by_cases hlt : k ≤ u.size
              · have i0 : (0 : Int) ≤ (k : Int) := by omega
                have i2 : (k : Int) ≤ (u.size : Int) := by omega
                have hz := put_size u k hlt
                have HZ1 : Hid ((u.extract 0 k ++ { data := #[48] } ++ u.extract k u.size).size ≠ 36) := by show ¬ _; omega
                have HZ2 : Hid ((u.extract 0 k ++ { data := #[48] } ++ u.extract k u.size).size ≤ 1000) := by show _ ≤ _; omega
                clear hz
                go_wp2_with fail
                go_quiet ((go_at_call 6; exact Calls.quiet_of_same (v6_len _ _ HZ1.out HZ2.out)))
                go_wp2
                go_roundg (gk - 1)
                case measure => have := HK.out; omega
                case rel => exact ⟨k + 1, by have := HK.out; omega, by go_num, HF.out.drewN _, below_drewN HB.out _⟩
              · obtain rfl : k = u.size + 1 := by omega
                clear HK
                obtain ⟨b, rfl, hb⟩ := HL.out
                cases b
                · clear hb
                  go_wp2
                  go_ret
                  exact ⟨rfl, HB.out⟩
                · obtain ⟨T, hcv, hT⟩ := HF.out.text
                  obtain ⟨j, hj1, hj2⟩ := hb rfl
                  have HNV : Hid (¬ Vd T) := fun hv => upc_no _ j hj2 (by rw [← hT.2 j hj1]; exact hv.2 j (by omega))
                  have HTS : Hid (T.size = 36) := by show _ = _; rw [hT.1]; omega
                  clear hT hb hj1 hj2
                  go_wp2_with fail
                  refine (v6_no T _ HTS.out HNV.out).mono ?_
                  rintro e w' ⟨rfl, rfl⟩
                  go_wp2
                  go_ret
                  exact ⟨rfl, HB.out⟩
end Go.Proofs.Qxb6002784a
