/-
  THE WALK OF FnUvarintAtInvertsEncoding (4).
-/
import Derived.Test.Qxb6602753aFil
import Derived.Test.Qxb6602753aEncWalk
import Derived.Below
namespace Go.Proofs.Qxb6602753a.fnUvarintAtInvertsEncoding
open Go.RowKit
open Uv

/-- The front tests say yes at once. -/
theorem walk_early (aP aS : Option Addr) (lp cp ls cs : Nat) (x : Int) (w : World) (_h1 : lp ≤ 9223372036854775807) (_h2 : ls ≤ 9223372036854775807) (h : 1048576 < lp + ls) :
    Calls Try.prog 4 #[.slice aP lp cp, .int .u64 x, .slice aS ls cs] w fun e w' => e = .returned (.bool true) ∧ Below w.heap.size w w' := by
  by_cases h1 : 1048576 < lp
  · go_enter Try.func4, Try.ntmps4
    go_wp2
    go_ret
    exact ⟨rfl, Below.refl _ _⟩
  · by_cases h2 : 1048576 < ls
    · go_enter Try.func4, Try.ntmps4
      go_wp2
      go_ret
      exact ⟨rfl, Below.refl _ _⟩
    · go_enter Try.func4, Try.ntmps4
      go_wp2
      go_ret
      exact ⟨rfl, Below.refl _ _⟩

/-- The bytes of the buffer. -/
def buf (P E S : Nat → Int) (lp n k : Nat) : Int := if k < lp then P k else if k < lp + n then E (k - lp) else S (k - lp - n)
theorem buf_p {P E S : Nat → Int} {lp n k : Nat} (h : k < lp) : buf P E S lp n k = P k := by simp [buf, h]
theorem buf_e {P E S : Nat → Int} {lp n k : Nat} (h : k < n) : buf P E S lp n (lp + k) = E k := by
  unfold buf
  rw [if_neg (by omega), if_pos (by omega)]
  congr 1
  omega
theorem buf_s {P E S : Nat → Int} {lp n k : Nat} : buf P E S lp n (lp + n + k) = S k := by
  unfold buf
  rw [if_neg (by omega), if_neg (by omega)]
  congr 1
  omega

/-- The reader over the filled buffer. -/
theorem fin12 (G lp t ls : Nat) (x : Int) (P S C : Nat → Int) (wr : World) (ht : t ≤ 9) (hsum : lp + ls ≤ 1048576) (hx0 : 0 ≤ x) (hx1 : x < 18446744073709551616) (hl : shr x t < 128)
    (hC : C = buf P (encB x t) S lp (t + 1)) (hF : Fil wr G (lp + (t + 1) + ls) C (lp + (t + 1) + ls)) (hP : ∀ k, k < lp → 0 ≤ P k ∧ P k < 256) (hS : ∀ k, k < ls → 0 ≤ S k ∧ S k < 256) :
    Calls Try.prog 12 #[.slice (some ⟨G, 0, none⟩) (lp + (t + 1) + ls) (lp + (t + 1) + ls), .int .i64 (lp : Int)] wr fun e w' =>
      e = .returned (.tuple #[.int .u64 x, .int .i64 ((lp + t + 1 : Nat) : Int)]) ∧ w' = wr := by
  have hCp : ∀ k, k < t + 1 → C (lp + k) = encB x t k := fun k hk => by rw [hC, buf_e hk]
  have huv : uv C lp (t + 1) = x := by
    have h : uv (fun k => C (lp + k)) 0 (t + 1) = uv C lp (t + 1) := uv_shift C lp 0 (t + 1)
    rw [← h, uv_congr (C := encB x t) 0 (t + 1) (fun k hk => by rw [Nat.zero_add]; exact hCp k hk)]
    exact uv_encB x hx0 hx1 t hl
  have hbd : ∀ k, k < lp + (t + 1) + ls → 0 ≤ C k ∧ C k < 256 := by
    intro k hk
    rw [hC]
    unfold buf
    by_cases h1 : k < lp
    · rw [if_pos h1]; exact hP k h1
    · rw [if_neg h1]
      by_cases h2 : k < lp + (t + 1)
      · rw [if_pos h2]; exact encB_bd x hx0 t (k - lp) (by omega) hl
      · rw [if_neg h2]; exact hS _ (by omega)
  have := uv12 G 0 (lp + (t + 1) + ls) (lp + (t + 1) + ls) lp t (lp : Int) C wr rfl (by omega) (fun k hk => by rw [Nat.zero_add]; exact hF.get (Nat.le_refl _) k hk) hbd (by omega)
    (fun k hk => by rw [hCp k (by omega)]; exact encB_mid x t k hk) (by rw [hCp t (by omega)]; exact encB_end x t hl)
  rw [huv] at this
  exact this

set_option maxHeartbeats 1600000 in
theorem walk_in (aP aS : Option Addr) (lp cp ls cs : Nat) (x : Int) (P S : Nat → Int) (w : World) (hsum : lp + ls ≤ 1048576) (hx0 : 0 ≤ x) (hx1 : x < 18446744073709551616) (hP : Row8 w aP lp P) (hS : Row8 w aS ls S) :
    Calls Try.prog 4 #[.slice aP lp cp, .int .u64 x, .slice aS ls cs] w fun e w' => e = .returned (.bool true) ∧ Below w.heap.size w w' := by
  have HP : Hid (Row8 w aP lp P) := hP
  have HS : Hid (Row8 w aS ls S) := hS
  clear hP hS
  go_enter Try.func4, Try.ntmps4
  go_wp2_with (first | (go_at_call 13; go_in))
  refine (enc14 _ _ hx0 hx1).mono ?_
  rintro e w1 ⟨g, cap, t, ht, hl, rfl, hg1, hg2, hce, hb1⟩
  have HCE : Hid (∀ k, k < t + 1 → w1.cell? ⟨g, k, none⟩ = some (.int .u8 (encB x t k))) := hce
  have HB1 : Hid (Below w.heap.size w w1) := hb1
  have HL : Hid (shr x t < 128) := hl
  clear hce hb1 hl
  obtain ⟨W, hmk, hfil, hbW⟩ := fil_make (lp + (t + 1) + ls) (buf P (encB x t) S lp (t + 1)) (by omega) w1
  rw [show ((lp + (t + 1) + ls : Nat) : Int) = (lp : Int) + ((t : Int) + 1) + (ls : Int) by omega] at hmk
  have HF : Hid (Fil W w1.heap.size (lp + (t + 1) + ls) (buf P (encB x t) S lp (t + 1)) 0) := hfil
  have HBW : Hid (Below w1.heap.size w1 W) := hbW
  clear hfil hbW
  obtain ⟨G, hG⟩ : ∃ G, G = w1.heap.size := ⟨_, rfl⟩
  rw [← hG] at HF HBW
  obtain ⟨C, hC⟩ : ∃ C, C = buf P (encB x t) S lp (t + 1) := ⟨_, rfl⟩
  rw [← hC] at HF
  rw [← hG] at hmk
  have HG : Hid (G = w1.heap.size) := hG
  have HC : Hid (C = buf P (encB x t) S lp (t + 1)) := hC
  clear hG hC
  go_wp2
  go_loopw [9, 10] (fun vn vk wr => ∃ k : Nat, k ≤ lp ∧ vk = .int .i64 (k : Int) ∧ vn = .int .i64 (k : Int) ∧ Fil wr G (lp + (t + 1) + ls) C k ∧ Below G w1 wr) (fun _ vk _ => lp - (intOf vk).toNat)
  case atStart => exact ⟨0, Nat.zero_le _, rfl, rfl, HF.out, HBW.out⟩
  case round =>
    obtain ⟨k, hk, rfl, rfl, hF, hB⟩ := hrel
    have HF1 : Hid (Fil wr G (lp + (t + 1) + ls) C k) := hF
    have HB2 : Hid (Below G w1 wr) := hB
    clear hF hB
    by_cases hlt : k < lp
    · obtain ⟨b, off, ha, hblt, hcP⟩ := HP.out.2 (by omega)
      subst ha
      have hck : wr.cell? ⟨b, off + k, none⟩ = some (.int .u8 (P k)) := by
        have hs := HB1.out.size
        rw [HB2.out.cell (by show b < G; have := HG.out; omega), HB1.out.cell hblt]
        exact hcP k hlt
      obtain ⟨v, hcv⟩ := HF1.out.cell k (by omega)
      have hfr := HF1.out.froz k
      clear hcP
      go_wp2
      go_roundw
      case rel => exact ⟨k + 1, by omega, by go_num, by go_num, HF1.out.step (by omega) (by rw [HC.out, buf_p hlt]), HB2.out.setCell (Nat.le_refl _) _⟩
      case measure => simp [intOf]; omega
    · obtain rfl : lp = k := by omega
      obtain ⟨wa, rfl⟩ : ∃ wa : World, wa = wr := ⟨_, rfl⟩
      go_wp2
      go_loopw [9, 11] (fun vn vk wr => ∃ k : Nat, k ≤ t + 1 ∧ vk = .int .i64 (k : Int) ∧ vn = .int .i64 ((lp + k : Nat) : Int) ∧ Fil wr G (lp + (t + 1) + ls) C (lp + k) ∧ Below G w1 wr) (fun _ vk _ => t + 1 - (intOf vk).toNat)
      case atStart => exact ⟨0, Nat.zero_le _, rfl, rfl, HF1.out, HB2.out⟩
      case round =>
        obtain ⟨k, hk, rfl, rfl, hF, hB⟩ := hrel
        have HF2 : Hid (Fil wr G (lp + (t + 1) + ls) C (lp + k)) := hF
        have HB3 : Hid (Below G w1 wr) := hB
        clear hF hB HF1 HB2
        by_cases hlt : k < t + 1
        · have hck : wr.cell? ⟨g, k, none⟩ = some (.int .u8 (encB x t k)) := by
            rw [HB3.out.cell (by show g < G; have := HG.out; omega)]
            exact HCE.out k hlt
          obtain ⟨v, hcv⟩ := HF2.out.cell (lp + k) (by omega)
          have hfr := HF2.out.froz (lp + k)
          go_wp2
          go_roundw
          case rel => exact ⟨k + 1, by omega, by go_num, by go_num, HF2.out.step (by omega) (by rw [HC.out, buf_e hlt]), HB3.out.setCell (Nat.le_refl _) _⟩
          case measure => simp [intOf]; omega
        · obtain rfl : k = t + 1 := by omega
          obtain ⟨wb, rfl⟩ : ∃ wb : World, wb = wr := ⟨_, rfl⟩
          go_wp2
          go_loopw [9, 12] (fun vn vk wr => ∃ k : Nat, k ≤ ls ∧ vk = .int .i64 (k : Int) ∧ vn = .int .i64 ((lp + (t + 1) + k : Nat) : Int) ∧ Fil wr G (lp + (t + 1) + ls) C (lp + (t + 1) + k) ∧ Below G w1 wr) (fun _ vk _ => ls - (intOf vk).toNat)
          case atStart => exact ⟨0, Nat.zero_le _, rfl, by go_num, HF2.out, HB3.out⟩
          case round =>
            obtain ⟨k, hk', rfl, rfl, hF, hB⟩ := hrel
            have HF3 : Hid (Fil wr G (lp + (t + 1) + ls) C (lp + (t + 1) + k)) := hF
            have HB4 : Hid (Below G w1 wr) := hB
            clear hF hB HF2 HB3
            by_cases hlt2 : k < ls
            · obtain ⟨b, off, ha, hblt, hcP⟩ := HS.out.2 (by omega)
              subst ha
              have hck : wr.cell? ⟨b, off + k, none⟩ = some (.int .u8 (S k)) := by
                have hs := HB1.out.size
                rw [HB4.out.cell (by show b < G; have := HG.out; omega), HB1.out.cell hblt]
                exact hcP k hlt2
              obtain ⟨v, hcv⟩ := HF3.out.cell (lp + (t + 1) + k) (by omega)
              have hfr := HF3.out.froz (lp + (t + 1) + k)
              clear hcP
              go_wp2
              go_roundw
              case rel => exact ⟨k + 1, by omega, by go_num, by go_num, HF3.out.step (by omega) (by rw [HC.out, buf_s]), HB4.out.setCell (Nat.le_refl _) _⟩
              case measure => simp [intOf]; omega
            · obtain rfl : ls = k := by omega
              have HK : Hid (Calls Try.prog 12 #[.slice (some ⟨G, 0, none⟩) (lp + (t + 1) + ls) (lp + (t + 1) + ls), .int .i64 (lp : Int)] wr fun e w' =>
                  e = .returned (.tuple #[.int .u64 x, .int .i64 ((lp + t + 1 : Nat) : Int)]) ∧ w' = wr) :=
                fin12 G lp t ls x P S C wr ht hsum hx0 hx1 HL.out HC.out HF3.out HP.out.1 HS.out.1
              have hfin : ((lp : Int) + (t : Int) + 1 == (lp : Int) + ((t : Int) + 1)) = true := by simp; omega
              go_wp2_with fail
              refine HK.out.mono ?_
              rintro e w' ⟨rfl, rfl⟩
              have HBf : Hid (Below w.heap.size w w') := HB1.out.trans (HB4.out.mono (by have := HB1.out.size; have := HG.out; omega))
              go_wp2
              go_ret
              exact ⟨rfl, HBf.out⟩
end Go.Proofs.Qxb6602753a.fnUvarintAtInvertsEncoding
