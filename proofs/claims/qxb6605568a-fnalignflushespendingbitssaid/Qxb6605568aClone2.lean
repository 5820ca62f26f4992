/-
  The clone of whatever slice of bytes came in, taken twice.
-/
import Derived.Test.Qxb6605568aZZalign
namespace Go.Proofs.Qxb6605568a
open Go.RowKit
set_option linter.unusedVariables false

/-- A slice of bytes that is not nil: its first 'xs.length' cells, wherever it lies. -/
def RowAt (k : IntKind) (w : World) (x : Addr) (xs : List Int) : Prop := ∀ i, i < xs.length → w.cell? (x.add i) = some (.int k (xs.getD i 0))

set_option maxHeartbeats 1000000 in
theorem clone_zero (x : Addr) (cap : Nat) (w : World) :
    Calls Try.prog 15 #[.slice (some x) 0 cap] w fun e w' => e = .returned (.slice (some ⟨w.heap.size, 0, none⟩) 0 0) ∧ w' = w.alloc (.cells (cellsOf .u8 []) 5) := by
  have q : ∀ (w : World) (a : Option Addr) (n c n' c' : Nat), (binOp .eql 31 (.slice a n c) (.slice none n' c')).run Try.prog w = .ok (.bool a.isNone) w := fun w a n c n' c' => Lib.run_eql_slice_nil w _ _ a n c n' c' Try.underlying31
  have mk := make31 0 (by omega)
  simp only [List.replicate_zero] at mk
  have mk' : ∀ w, (Instr.makeSlice 31 (.int .i64 0) (.int .i64 0)).run Try.prog w = .ok (.slice (some ⟨w.heap.size, 0, none⟩) 0 0) (w.alloc (.cells (cellsOf .u8 []) 5)) := mk
  clear mk
  go_enter Try.func15, Try.ntmps15
  go_wp2
  go_loopw [4] (fun i wr => i = .int .i64 0 ∧ wr = w.alloc (.cells (cellsOf .u8 []) 5)) (fun i _ => 0)
  case atStart => exact ⟨rfl, rfl⟩
  case round =>
    obtain ⟨rfl, rfl⟩ := hrel
    go_wp2
    go_ret
    exact ⟨rfl, rfl⟩

theorem clone_some (x : Addr) (cap : Nat) (xs : List Int) (hx : xs.length ≤ 1048576) (w : World) (hc : RowAt .u8 w x xs) :
    Calls Try.prog 15 #[.slice (some x) xs.length cap] w fun e w' => e = .returned (.slice (some ⟨w.heap.size, 0, none⟩) xs.length xs.length) ∧ w' = w.alloc (.cells (cellsOf .u8 xs) 5) := by
  by_cases h0 : xs.length = 0
  · have : xs = [] := List.eq_nil_of_length_eq_zero h0
    subst this
    exact clone_zero x cap w
  · obtain ⟨b, off, spot⟩ := x
    have hspot : spot = none := by simpa [Addr.add] using World.cell?_spot (hc 0 (by omega))
    subst hspot
    have hb : b < w.heap.size := by simpa [Addr.add] using World.block_lt_of_cell? w _ (hc 0 (by omega))
    exact clone_row b off cap xs hx w hb (fun j hj => by have := hc j hj; rwa [Addr.add_lit] at this)

theorem rowAt_alloc (k : IntKind) (w : World) (xs : List Int) (t : TypeId) : RowAt k (w.alloc (.cells (cellsOf k xs) t)) ⟨w.heap.size, 0, none⟩ xs := fun i hi => by
  rw [Addr.add_lit, Nat.zero_add, World.cell?_alloc_at _ _ _ _ rfl]
  exact cellsOf_get k xs i hi
end Go.Proofs.Qxb6605568a
