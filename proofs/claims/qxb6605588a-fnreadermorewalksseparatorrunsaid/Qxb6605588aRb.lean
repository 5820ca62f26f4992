/-
  FnHex4ReadsBackWhatIsWritten (function 4): its walks.
-/
import Derived.Test.Qxb6605588aHex4
import Derived.Deep.AppendLies
namespace Go.Proofs.Qxb6605588a
open Go.RowKit
set_option linter.unusedVariables false

theorem Try.info5 : (Try.prog.info? 5).map (fun i => (i.zero, i.size, i.bytes)) = some (some (.int .u8 0), 1, 1) := by kernel_rfl
def cellsOf (k : IntKind) (xs : List Int) : Array Value := (xs.map (Value.int k)).toArray
theorem cellsOf_get (k : IntKind) (xs : List Int) (j : Nat) (h : j < xs.length) : (cellsOf k xs)[j]? = some (.int k (xs.getD j 0)) := by
  simp [cellsOf, List.getD, h]
theorem cellsOf_size (k : IntKind) (xs : List Int) : (cellsOf k xs).size = xs.length := by simp [cellsOf]
theorem cellsOf_set (k : IntKind) (xs : List Int) (j : Nat) (v : Int) : (cellsOf k xs).setIfInBounds j (.int k v) = cellsOf k (xs.set j v) := by
  simp [cellsOf, List.map_set]
theorem made_zeros (k : IntKind) (n : Nat) : madeCells #[Value.int k 0] n = cellsOf k (List.replicate n 0) := by
  have := toList_madeCells_one (.int k 0) n
  apply Array.ext'
  rw [this]
  simp [cellsOf]
/-- 'make([]byte, 0, n)'. -/
theorem make22c (n : Nat) (hn : n ≤ 2097152) (w : World) : (Instr.makeSlice 22 (.int .i64 0) (.int .i64 (n : Int))).run Try.prog w =
    .ok (.slice (some ⟨w.heap.size, 0, none⟩) 0 n) (w.alloc (.cells (cellsOf .u8 (List.replicate n 0)) 5)) := by
  obtain ⟨i0, hi, hz0, hz1, hz2⟩ := info_parts Try.info5
  have h := run_make (P := Try.prog) w 22 5 i0 (.int .u8 0) Try.underlying22 hi hz0 .i64 .i64 0 n (by omega) (by omega) (by rw [hz2]; omega) (by omega)
  rw [h, hz1]
  simp only [Int.toNat_natCast, Nat.mul_one]
  rw [← made_zeros]
  rfl

/-- The digit n in lower case, in upper case. -/
def lowB (n : Nat) : Nat := if n < 10 then 48 + n else 87 + n
def upB (n : Nat) : Nat := if n < 10 then 48 + n else 55 + n
theorem dig_low (n : Nat) (h : n < 16) : Dig (lowB n) n := by unfold Dig lowB; split <;> omega
theorem dig_up (n : Nat) (h : n < 16) : Dig (upB n) n := by unfold Dig upB; split <;> omega
theorem lowB_lt (n : Nat) (h : n < 16) : lowB n < 256 := by unfold lowB; split <;> omega
theorem upB_lt (n : Nat) (h : n < 16) : upB n < 256 := by unfold upB; split <;> omega
/-- The k-th nibble from the left. -/
def nib (V k : Nat) : Nat := V / 16 ^ (3 - k) % 16
theorem nib_val (V : Nat) (h : V < 65536) : val (nib V) 4 = V := by
  simp only [val, nib]
  omega
theorem nib_bits (V k : Nat) (hV : V < 65536) (hk : k < 4) : bits .and .u16 ((V : Int) / 2 ^ (12 - 4 * k)) 15 = ((nib V k : Nat) : Int) := by
  have e : ((V : Int) / 2 ^ (12 - 4 * k)) = ((V / 2 ^ (12 - 4 * k) : Nat) : Int) := by simp
  have hlt : V / 2 ^ (12 - 4 * k) < 65536 := Nat.lt_of_le_of_lt (Nat.div_le_self _ _) hV
  have h1 := u16_and_nat (V / 2 ^ (12 - 4 * k)) 15 hlt (by omega)
  rw [e]
  refine h1.trans ?_
  have h2 := Nat.and_two_pow_sub_one_eq_mod (V / 2 ^ (12 - 4 * k)) 4
  have e4 : (2 : Nat) ^ 4 - 1 = 15 := rfl
  rw [e4] at h2
  rw [h2, nib]
  have : (2 : Nat) ^ (12 - 4 * k) = 16 ^ (3 - k) := by
    rw [show 12 - 4 * k = 4 * (3 - k) from by omega, Nat.pow_mul]
  rw [this]

theorem low_byte : ∀ m : Fin 16, ((({ data := #[48, 49, 50, 51, 52, 53, 54, 55, 56, 57, 97, 98, 99, 100, 101, 102] } : ByteArray)[m.val]'(by have := m.isLt; exact this)).toNat) = lowB m.val := by decide
theorem up_byte : ∀ m : Fin 16, ((({ data := #[48, 49, 50, 51, 52, 53, 54, 55, 56, 57, 65, 66, 67, 68, 69, 70] } : ByteArray)[m.val]'(by have := m.isLt; exact this)).toNat) = upB m.val := by decide
theorem low_at (m : Nat) (hm : m < 16) (w : World) : (Instr.index 9 (.string { data := #[48, 49, 50, 51, 52, 53, 54, 55, 56, 57, 97, 98, 99, 100, 101, 102] }) (.int .i64 (m : Int))).run Try.prog w = .ok (.int .u8 ((lowB m : Nat) : Int)) w := by
  rw [run_index_string w 9 _ .i64 (m : Int) Try.underlying9, dif_pos ⟨by omega, by show (m : Int) < 16; omega⟩]
  have := low_byte ⟨m, hm⟩
  simp only [Int.toNat_natCast]
  rw [this]
theorem up_at (m : Nat) (hm : m < 16) (w : World) : (Instr.index 9 (.string { data := #[48, 49, 50, 51, 52, 53, 54, 55, 56, 57, 65, 66, 67, 68, 69, 70] }) (.int .i64 (m : Int))).run Try.prog w = .ok (.int .u8 ((upB m : Nat) : Int)) w := by
  rw [run_index_string w 9 _ .i64 (m : Int) Try.underlying9, dif_pos ⟨by omega, by show (m : Int) < 16; omega⟩]
  have := up_byte ⟨m, hm⟩
  simp only [Int.toNat_natCast]
  rw [this]
end Go.Proofs.Qxb6605588a
