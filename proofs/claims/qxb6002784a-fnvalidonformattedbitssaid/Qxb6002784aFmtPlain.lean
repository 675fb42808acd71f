/-
  THE PLAIN TEXT OF A UUID: its 36 bytes out of 32 nibbles.
-/
import Derived.Test.Qxb6002784aValid
import Derived.Laws.BytesArg
import Derived.Laws.BitsAllLaws
import Derived.KernelRfl
namespace Go.Proofs.Qxb6002784a

/-- Nibble i (from the left) of hi:lo. -/
def nib (hi lo : Int) (i : Nat) : Int := if i < 16 then hi / 2 ^ (60 - 4 * i) % 16 else lo / 2 ^ (60 - 4 * (i - 16)) % 16
theorem nib_bd (hi lo : Int) (i : Nat) : 0 ≤ nib hi lo i ∧ nib hi lo i < 16 := by unfold nib; split <;> omega
/-- A hex digit. -/
def hexc (n : Int) : Int := if n < 10 then 48 + n else 87 + n
theorem hexc_ok {n : Int} (h0 : 0 ≤ n) (h1 : n < 16) : (48 ≤ hexc n ∧ hexc n ≤ 57) ∨ (97 ≤ hexc n ∧ hexc n ≤ 102) := by unfold hexc; split <;> omega

/-- The bytes behind i rounds. -/
def F (g : Nat → Int) : Nat → List Int
  | 0 => []
  | i + 1 => F g i ++ ((if i = 8 ∨ i = 12 ∨ i = 16 ∨ i = 20 then [45] else []) ++ [g i])
theorem F_len (g : Nat → Int) : ∀ i, (F g i).length ≤ 2 * i := by
  intro i
  induction i with
  | zero => simp [F]
  | succ i ih => simp only [F, List.length_append]; split <;> simp <;> omega
theorem F_yes (g : Nat → Int) {i : Nat} (h : i = 8 ∨ i = 12 ∨ i = 16 ∨ i = 20) : F g (i + 1) = (F g i ++ [45]) ++ [g i] := by rw [F, if_pos h]; simp
theorem F_no (g : Nat → Int) {i : Nat} (h : ¬ (i = 8 ∨ i = 12 ∨ i = 16 ∨ i = 20)) : F g (i + 1) = F g i ++ [g i] := by rw [F, if_neg h]; simp

/-- Byte j of the text. -/
def P (g : Nat → Int) (j : Nat) : Int := if j < 8 then g j else if j = 8 then 45 else if j < 13 then g (j - 1) else if j = 13 then 45 else if j < 18 then g (j - 2) else if j = 18 then 45 else if j < 23 then g (j - 3) else if j = 23 then 45 else g (j - 4)
theorem F_all (g : Nat → Int) : F g 32 = (List.range 36).map (P g) := by kernel_rfl

/-- Every byte of the text is as Valid asks, but for the version and the variant. -/
theorem P_ok (g : Nat → Int) (hg : ∀ i, i < 32 → (48 ≤ g i ∧ g i ≤ 57) ∨ (97 ≤ g i ∧ g i ≤ 102)) (h14 : g 12 = 55) (h19 : g 16 = 56 ∨ g 16 = 57 ∨ g 16 = 97 ∨ g 16 = 98) (j : Nat) (hj : j < 36) : okV j (P g j) := by
  refine ⟨fun h => ?_, fun h => ?_, fun h => ?_, fun h h1 h2 => ?_⟩
  · rcases h with rfl | rfl | rfl | rfl <;> rfl
  · subst h; exact h14
  · subst h; exact h19
  · unfold dash at h
    unfold P
    by_cases c1 : j < 8
    · rw [if_pos c1]; exact hg j (by omega)
    rw [if_neg c1, if_neg (by omega)]
    by_cases c2 : j < 13
    · rw [if_pos c2]; exact hg _ (by omega)
    rw [if_neg c2, if_neg (by omega)]
    by_cases c3 : j < 18
    · rw [if_pos c3]; exact hg _ (by omega)
    rw [if_neg c3, if_neg (by omega)]
    by_cases c4 : j < 23
    · rw [if_pos c4]; exact hg _ (by omega)
    rw [if_neg c4, if_neg (by omega)]
    exact hg _ (by omega)
theorem P_14 (g : Nat → Int) : P g 14 = g 12 := rfl
theorem P_19 (g : Nat → Int) : P g 19 = g 16 := rfl

/-- The text. -/
def text (g : Nat → Int) : ByteArray := strOfNums ((List.range 36).map (P g))
theorem text_at (g : Nat → Int) (hg : ∀ i, i < 36 → 0 ≤ P g i ∧ P g i < 256) (j : Nat) (hj : j < 36) : cB (text g) j = P g j := by
  have hlt : j < (text g).size := by unfold text; rw [strOfNums_size]; simpa using hj
  rw [cB_at hlt]
  have hb : ((text g)[j]'hlt) = UInt8.ofNat (P g j).toNat := by
    show (((List.range 36).map (P g)).map fun n => UInt8.ofNat n.toNat).toArray[j]'_ = _
    simp
  rw [hb]
  have := hg j hj
  simp [UInt8.toNat_ofNat']
  omega
theorem text_size (g : Nat → Int) : (text g).size = 36 := by unfold text; rw [strOfNums_size]; simp
end Go.Proofs.Qxb6002784a
