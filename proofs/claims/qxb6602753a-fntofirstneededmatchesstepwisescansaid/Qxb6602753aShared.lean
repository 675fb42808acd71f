/-
  WHAT THE WALKS OVER THE VARINT LAWS SHARE: the shim's contract (12); a row of bytes; the first ending byte; a copied row.
-/
import Derived.Test.Qxb6602753aUvWalk
import Derived.Laws.CopyOwn
import Derived.Laws.MakeOwn
import Derived.ProofKit
namespace Go.Proofs.Qxb6602753a
open Go.RowKit Go.ChangeShapes Go.WideShapes Go.ChangeAt
open Uv

theorem uv12 (b off len cap i n : Nat) (I : Int) (B : Nat → Int) (w : World) (hI : I = (i : Int)) (hlen : len ≤ 2000000)
    (hc : ∀ k, k < len → w.cell? ⟨b, off + k, none⟩ = some (.int .u8 (B k))) (hb : ∀ k, k < len → 0 ≤ B k ∧ B k < 256)
    (hin : i + n < len) (hmid : ∀ k, k < n → 128 ≤ B (i + k)) (hend : B (i + n) < 128) :
    Calls Try.prog 12 #[.slice (some ⟨b, off, none⟩) len cap, .int .i64 I] w fun e w' =>
      e = .returned (.tuple #[.int .u64 (uv B i (n + 1)), .int .i64 ((i + n + 1 : Nat) : Int)]) ∧ w' = w := by
  have K := uv31 b off len cap i n I B w hI hlen hc hb hin hmid hend
  have HK : Hid (Calls Try.prog 31 #[.slice (some ⟨b, off, none⟩) len cap, .int .i64 I] w fun e w' =>
      e = .returned (.tuple #[.int .u64 (uv B i (n + 1)), .int .i64 ((i + n + 1 : Nat) : Int)]) ∧ w' = w) := K
  clear K hc hb hmid hend hI
  go_enter Try.func12, Try.ntmps12
  go_wp2_with fail
  refine HK.out.mono ?_
  rintro e w' ⟨rfl, rfl⟩
  go_wp2
  go_ret2
  exact ⟨rfl, rfl⟩

/-- Either every byte from i on is 128 or above, or there is a first one below. -/
theorem first_end (B : Nat → Int) (i len : Nat) : (∀ k, i ≤ k → k < len → 128 ≤ B k) ∨ ∃ n, i + n < len ∧ (∀ k, k < n → 128 ≤ B (i + k)) ∧ B (i + n) < 128 := by
  obtain ⟨d, hd⟩ : ∃ d, d = len - i := ⟨_, rfl⟩
  induction d generalizing i with
  | zero => exact .inl fun k h1 h2 => by omega
  | succ d ih =>
    by_cases h : B i < 128
    · exact .inr ⟨0, by omega, fun k hk => by omega, h⟩
    · rcases ih (i + 1) (by omega) with g | ⟨n, g1, g2, g3⟩
      · refine .inl fun k h1 h2 => ?_
        by_cases e : k = i
        · subst e; omega
        · exact g k (by omega) h2
      · refine .inr ⟨n + 1, by omega, fun k hk => ?_, ?_⟩
        · match k with
          | 0 => show 128 ≤ B i; omega
          | k + 1 => rw [show i + (k + 1) = i + 1 + k by omega]; exact g2 k (by omega)
        · rw [show i + (n + 1) = i + 1 + n by omega]; exact g3

theorem Try.info5 : (Try.prog.info? 5).map (fun i => (i.zero, i.size, i.bytes)) = some (some (.int .u8 0), 1, 1) := by kernel_rfl
theorem Try.size5 : (Try.prog.info? 5).map (·.size) = some 1 := by kernel_rfl
theorem Try.cells5 : Try.prog.cellsOf 5 = 1 := by kernel_rfl
theorem Try.cells3 : Try.prog.cellsOf 3 = 1 := by kernel_rfl

/-- The cells of a row of bytes. -/
def byteCells (B : Nat → Int) (n : Nat) : List Value := (List.range n).map fun k => .int .u8 (B k)
theorem byteCells_length (B : Nat → Int) (n : Nat) : (byteCells B n).length = n := by simp [byteCells]
theorem byteCells_at (B : Nat → Int) (n j : Nat) (h : j < n) : (byteCells B n)[j]? = some (.int .u8 (B j)) := by simp [byteCells, h]
theorem byteCells_inv {B : Nat → Int} {n j : Nat} {v : Value} (h : (byteCells B n)[j]? = some v) : j < n ∧ v = .int .u8 (B j) := by
  by_cases hj : j < n
  · rw [byteCells_at B n j hj] at h; exact ⟨hj, by cases h; rfl⟩
  · simp [byteCells, hj] at h
theorem byteCells_one {B : Nat → Int} {n : Nat} : ∀ v ∈ byteCells B n, v.oneCell' = true := by
  intro v hv
  simp only [byteCells, List.mem_map] at hv
  obtain ⟨k, _, rfl⟩ := hv
  rfl

/-- Cells of a block whose row is known. -/
theorem cell_of_row {w : World} {g : Nat} {L : List Value} {t : TypeId} (h : w.heap[g]? = some (.cells L.toArray t (0, 0))) (k : Nat) : w.cell? ⟨g, k, none⟩ = L[k]? := by
  simp [World.cell?, h]

theorem cell_lt {w : World} {a : Addr} {v : Value} (h : w.cell? a = some v) : a.block < w.heap.size := by
  by_cases hb : a.block < w.heap.size
  · exact hb
  · exfalso
    have hn : w.heap[a.block]? = none := Array.getElem?_eq_none (by omega)
    simp [World.cell?, hn] at h

/-- make([]byte, n), n a number of elements. -/
theorem make22 (n : Nat) (hn : n ≤ 2000000) (w : World) : (Instr.makeSlice 22 (.int .i64 (n : Int)) (.int .i64 (n : Int))).run Try.prog w = .ok (.slice (some ⟨w.heap.size, 0, none⟩) n n) (w.alloc (.cells (madeCells #[.int .u8 0] n) 5)) := by
  obtain ⟨i0, hi, hz0, hz1, hz2⟩ := info_parts Try.info5
  have := run_make (P := Try.prog) w 22 5 i0 (.int .u8 0) Try.underlying22 hi hz0 .i64 .i64 (n : Int) (n : Int) (by omega) (by omega) (by rw [hz2]; omega) (by omega)
  rw [hz1] at this
  simpa [Value.cells] using this

/-- 'zzc := make([]byte, len(b)); copy(zzc, b)': the copy's run, and what the world behind it holds. -/
theorem copy22 (b off n cap : Nat) (B : Nat → Int) (w : World) (hc : ∀ k, k < n → w.cell? ⟨b, off + k, none⟩ = some (.int .u8 (B k))) :
    ∃ W : World, (∀ ty, (Builtin.copy_ #[22, 22] ty #[.slice (some ⟨w.heap.size, 0, none⟩) n n, .slice (some ⟨b, off, none⟩) n cap]).run Try.prog (w.alloc (.cells (madeCells #[.int .u8 0] n) 5)) = .ok (.int .i64 (n : Int)) W) ∧
      Below w.heap.size w W ∧ w.heap.size < W.heap.size ∧ ∀ k, k < n → W.cell? ⟨w.heap.size, k, none⟩ = some (.int .u8 (B k)) := by
  have hg : (w.alloc (.cells (madeCells #[.int .u8 0] n) 5)).heap[w.heap.size]? = some (.cells (madeCells #[.int .u8 0] n) 5 (0, 0)) := by
    show (w.heap.push _)[w.heap.size]? = _
    simp
  have hbel : Below w.heap.size w (w.alloc (.cells (madeCells #[.int .u8 0] n) 5)) := (Below.refl _ _).alloc (Nat.le_refl _) _
  have hsz : (madeCells #[.int .u8 0] n).size = n := size_madeCells _ _
  have hsrc : ∀ j v, (byteCells B n)[j]? = some v → (w.alloc (.cells (madeCells #[.int .u8 0] n) 5)).cell? ((⟨b, off, none⟩ : Addr).add j) = some v := by
    intro j v hv
    obtain ⟨hj, rfl⟩ := byteCells_inv hv
    rw [add_plain, hbel.cell (by exact cell_lt (hc j hj))]
    exact hc j hj
  refine ⟨(w.alloc (.cells (madeCells #[.int .u8 0] n) 5)).setRow w.heap.size ((madeCells #[.int .u8 0] n).toList.take 0 ++ byteCells B n ++ (madeCells #[.int .u8 0] n).toList.drop (0 + (byteCells B n).length)).toArray, fun ty => ?_, ?_, ?_, ?_⟩
  · have := run_copy_row (P := Try.prog) _ 22 22 ty 5 w.heap.size 0 n n ⟨b, off, none⟩ n cap (madeCells #[.int .u8 0] n) 5 (byteCells B n) Try.underlying22 Try.size5 hg (by rw [byteCells_length]; exact (Nat.min_self n).symm) hsrc (by rw [byteCells_length, hsz]; omega) byteCells_one
    rw [this, show goInt (byteCells B n).length = .int .i64 (n : Int) by rw [byteCells_length]; rfl]
  · exact below_setRow hbel (Nat.le_refl _) _
  · simp [World.setRow]
  · intro k hk
    have hr := setRow_heap (w.alloc (.cells (madeCells #[.int .u8 0] n) 5)) w.heap.size _ ((madeCells #[.int .u8 0] n).toList.take 0 ++ byteCells B n ++ (madeCells #[.int .u8 0] n).toList.drop (0 + (byteCells B n).length)).toArray 5 _ hg
    rw [cell_of_row hr, List.take_zero, List.nil_append, List.getElem?_append_left (by rw [byteCells_length]; exact hk)]
    exact byteCells_at B n k hk
end Go.Proofs.Qxb6602753a
