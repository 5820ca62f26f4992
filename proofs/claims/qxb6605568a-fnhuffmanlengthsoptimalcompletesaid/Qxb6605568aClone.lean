/-
  THE CLONES: 'cloneBytes' (function 15): what it makes, exactly.
-/
import Derived.Test.Qxb6605568aRows
import Derived.WalkKit
import Derived.WalkSpells
import Derived.Lib.SliceRun
namespace Go.Proofs.Qxb6605568a
open Go.RowKit
set_option linter.unusedVariables false

/-- The cells of a row of numbers of one kind. -/
def cellsOf (k : IntKind) (xs : List Int) : Array Value := (xs.map (Value.int k)).toArray
theorem cellsOf_get (k : IntKind) (xs : List Int) (j : Nat) (h : j < xs.length) : (cellsOf k xs)[j]? = some (.int k (xs.getD j 0)) := by
  simp [cellsOf, List.getD, h]
theorem cellsOf_size (k : IntKind) (xs : List Int) : (cellsOf k xs).size = xs.length := by simp [cellsOf]
theorem cellsOf_set (k : IntKind) (xs : List Int) (j : Nat) (v : Int) : (cellsOf k xs).setIfInBounds j (.int k v) = cellsOf k (xs.set j v) := by
  simp [cellsOf, List.map_set]

/-- A copy under way: the first k elements are there, the rest is zero. -/
def half (xs : List Int) (k : Nat) : List Int := xs.take k ++ List.replicate (xs.length - k) 0
theorem half_length (xs : List Int) (k : Nat) (h : k ≤ xs.length) : (half xs k).length = xs.length := by simp [half]; omega
theorem half_zero (xs : List Int) : half xs 0 = List.replicate xs.length 0 := by simp [half]
theorem half_all (xs : List Int) : half xs xs.length = xs := by simp [half]
theorem half_set (xs : List Int) (k : Nat) (h : k < xs.length) : (half xs k).set k (xs.getD k 0) = half xs (k + 1) := by
  apply List.ext_getElem
  · simp [half]; omega
  · intro i h1 h2
    simp only [half, List.getElem_set, List.getElem_append, List.length_take, List.getElem_take, List.getElem_replicate]
    by_cases hi : k = i
    · subst hi
      simp [List.getD, h, show k < min (k + 1) xs.length by omega]
    · simp only [hi, if_false]
      by_cases hik : i < k
      · simp [show i < min k xs.length by omega, show i < min (k + 1) xs.length by omega]
      · simp [show ¬ i < min k xs.length by omega, show ¬ i < min (k + 1) xs.length by omega]

theorem made_zeros (k : IntKind) (n : Nat) : madeCells #[Value.int k 0] n = cellsOf k (List.replicate n 0) := by
  have := toList_madeCells_one (.int k 0) n
  apply Array.ext'
  rw [this]
  simp [cellsOf]

theorem Try.info5 : (Try.prog.info? 5).map (fun i => (i.zero, i.size, i.bytes)) = some (some (.int .u8 0), 1, 1) := by kernel_rfl
theorem Try.info25 : (Try.prog.info? 25).map (fun i => (i.zero, i.size, i.bytes)) = some (some (.int .u32 0), 1, 4) := by kernel_rfl

/-- 'make([]byte, n)'. -/
theorem make31 (n : Nat) (hn : n ≤ 1048576) (w : World) : (Instr.makeSlice 31 (.int .i64 (n : Int)) (.int .i64 (n : Int))).run Try.prog w =
    .ok (.slice (some ⟨w.heap.size, 0, none⟩) n n) (w.alloc (.cells (cellsOf .u8 (List.replicate n 0)) 5)) := by
  obtain ⟨i0, hi, hz0, hz1, hz2⟩ := info_parts Try.info5
  have h := run_make (P := Try.prog) w 31 5 i0 (.int .u8 0) Try.underlying31 hi hz0 .i64 .i64 n n (by omega) (by omega) (by rw [hz2]; omega) (by omega)
  rw [h, hz1]
  simp only [Int.toNat_natCast, Nat.mul_one]
  rw [← made_zeros]
  rfl

theorem clone_nil (w : World) : Calls Try.prog 15 #[.slice none 0 0] w fun e w' => e = .returned (.slice none 0 0) ∧ w' = w := by
  have q : ∀ (w : World) (a : Option Addr) (n c n' c' : Nat), (binOp .eql 31 (.slice a n c) (.slice none n' c')).run Try.prog w = .ok (.bool a.isNone) w := fun w a n c n' c' => Lib.run_eql_slice_nil w _ _ a n c n' c' Try.underlying31
  go_enter Try.func15, Try.ntmps15
  go_wp2
  go_ret
  exact ⟨rfl, rfl⟩

set_option maxHeartbeats 1000000 in
theorem clone_row (b off cap : Nat) (xs : List Int) (hx : xs.length ≤ 1048576) (w : World) (hb : b < w.heap.size) (hc : ∀ j, j < xs.length → w.cell? ⟨b, off + j, none⟩ = some (.int .u8 (xs.getD j 0))) :
    Calls Try.prog 15 #[.slice (some ⟨b, off, none⟩) xs.length cap] w fun e w' => e = .returned (.slice (some ⟨w.heap.size, 0, none⟩) xs.length xs.length) ∧ w' = w.alloc (.cells (cellsOf .u8 xs) 5) := by
  have q : ∀ (w : World) (a : Option Addr) (n c n' c' : Nat), (binOp .eql 31 (.slice a n c) (.slice none n' c')).run Try.prog w = .ok (.bool a.isNone) w := fun w a n c n' c' => Lib.run_eql_slice_nil w _ _ a n c n' c' Try.underlying31
  have mk := make31 xs.length hx
  obtain ⟨n, hn⟩ : ∃ n, xs.length = n := ⟨_, rfl⟩
  have HN : Hid (xs.length = n) := hn
  rw [hn] at mk hx hc ⊢
  clear hn
  go_enter Try.func15, Try.ntmps15
  go_wp2
  go_loopw [4] (fun i wr => ∃ k : Nat, k ≤ n ∧ i = .int .i64 k ∧ wr = w.alloc (.cells (cellsOf .u8 (half xs k)) 5)) (fun i _ => n - (intOf i).toNat)
  case atStart => exact ⟨0, Nat.zero_le _, rfl, by rw [half_zero, HN.out]⟩
  case round =>
    obtain ⟨k, hk, rfl, rfl⟩ := hrel
    by_cases hlt : k < n
    · have hcell := hc k hlt
      have hold : (cellsOf .u8 (half xs k))[k]? = some (.int .u8 ((half xs k).getD k 0)) := cellsOf_get _ _ _ (by rw [half_length _ _ (by rw [HN.out]; exact hk), HN.out]; exact hlt)
      go_wp2
      go_roundw
      case rel => exact ⟨k + 1, by omega, by go_num, by rw [← half_set xs k (by rw [HN.out]; exact hlt), ← cellsOf_set]; simp⟩
      case measure => simp [intOf]; omega
    · have : k = n := by omega
      subst this
      go_wp2
      go_ret
      exact ⟨rfl, by rw [← HN.out, half_all]⟩
end Go.Proofs.Qxb6605568a
