/-
  cloneU32 (function 8), ZZhuffmanLengths (function 9).
-/
import Derived.Test.Qxb6605568aHl
namespace Go.Proofs.Qxb6605568a
open Go.RowKit
set_option linter.unusedVariables false

/-- A slice that is not nil: its first 'xs.length' cells, wherever it lies. -/
def RowsAt (k : IntKind) (w : World) (x : Addr) (xs : List Int) : Prop := ∀ i, i < xs.length → w.cell? (x.add i) = some (.int k (xs.getD i 0))

/-- 'make([]uint32, n)'. -/
theorem make22 (n : Nat) (hn : n ≤ 1048576) (w : World) : (Instr.makeSlice 22 (.int .i64 (n : Int)) (.int .i64 (n : Int))).run Try.prog w =
    .ok (.slice (some ⟨w.heap.size, 0, none⟩) n n) (w.alloc (.cells (cellsOf .u32 (List.replicate n 0)) 25)) := by
  obtain ⟨i0, hi, hz0, hz1, hz2⟩ := info_parts Try.info25
  have h := run_make (P := Try.prog) w 22 25 i0 (.int .u32 0) Try.underlying22 hi hz0 .i64 .i64 n n (by omega) (by omega) (by rw [hz2]; omega) (by omega)
  rw [h, hz1]
  simp only [Int.toNat_natCast, Nat.mul_one]
  rw [← made_zeros]
  rfl

set_option maxHeartbeats 1000000 in
theorem clone32_row (b off cap : Nat) (xs : List Int) (n : Nat) (HN : Hid (xs.length = n)) (hx : n ≤ 1048576) (w : World) (hb : b < w.heap.size) (hc : ∀ j, j < n → w.cell? ⟨b, off + j, none⟩ = some (.int .u32 (xs.getD j 0))) :
    Calls Try.prog 8 #[.slice (some ⟨b, off, none⟩) n cap] w fun e w' => e = .returned (.slice (some ⟨w.heap.size, 0, none⟩) n n) ∧ w' = w.alloc (.cells (cellsOf .u32 xs) 25) := by
  have q : ∀ (w : World) (a : Option Addr) (n c n' c' : Nat), (binOp .eql 22 (.slice a n c) (.slice none n' c')).run Try.prog w = .ok (.bool a.isNone) w := fun w a n c n' c' => Lib.run_eql_slice_nil w _ _ a n c n' c' Try.underlying22
  have mk := make22 n hx
  go_enter Try.func8, Try.ntmps8
  go_wp2
  go_loopw [4] (fun i wr => ∃ k : Nat, k ≤ n ∧ i = .int .i64 k ∧ wr = w.alloc (.cells (cellsOf .u32 (half xs k)) 25)) (fun i _ => n - (intOf i).toNat)
  case atStart => exact ⟨0, Nat.zero_le _, rfl, by rw [half_zero, HN.out]⟩
  case round =>
    obtain ⟨k, hk, rfl, rfl⟩ := hrel
    by_cases hlt : k < n
    · have hcell := hc k hlt
      have hold : (cellsOf .u32 (half xs k))[k]? = some (.int .u32 ((half xs k).getD k 0)) := cellsOf_get _ _ _ (by rw [half_length _ _ (by rw [HN.out]; exact hk), HN.out]; exact hlt)
      go_wp2
      go_roundw
      case rel => exact ⟨k + 1, by omega, by go_num, by rw [← half_set xs k (by rw [HN.out]; exact hlt), ← cellsOf_set]; simp⟩
      case measure => simp [intOf]; omega
    · have hkn : k = n := by omega
      subst hkn
      go_wp2
      go_ret
      exact ⟨rfl, by rw [← HN.out, half_all]⟩

theorem clone32_some (x : Addr) (cap : Nat) (xs : List Int) (n : Nat) (HN : Hid (xs.length = n)) (hn : 1 ≤ n) (hx : n ≤ 1048576) (w : World) (hc : RowsAt .u32 w x xs) :
    Calls Try.prog 8 #[.slice (some x) n cap] w fun e w' => e = .returned (.slice (some ⟨w.heap.size, 0, none⟩) n n) ∧ w' = w.alloc (.cells (cellsOf .u32 xs) 25) := by
  obtain ⟨b, off, spot⟩ := x
  have hl := HN.out
  have hspot : spot = none := by simpa [Addr.add] using World.cell?_spot (hc 0 (by omega))
  subst hspot
  have hb : b < w.heap.size := by simpa [Addr.add] using World.block_lt_of_cell? w _ (hc 0 (by omega))
  exact clone32_row b off cap xs n HN hx w hb (fun j hj => by have := hc j (by omega); rwa [Addr.add_lit] at this)

theorem rowsAt_alloc (k : IntKind) (w : World) (xs : List Int) (t : TypeId) : RowsAt k (w.alloc (.cells (cellsOf k xs) t)) ⟨w.heap.size, 0, none⟩ xs := fun i hi => by
  rw [Addr.add_lit, Nat.zero_add, World.cell?_alloc_at _ _ _ _ rfl]
  exact cellsOf_get k xs i hi

theorem zzhl_any (g cap n : Nat) (ws : List Nat) (w : World) (HN : Hid (ws.length = n)) (hn : 2 ≤ n) (hn' : n ≤ 65536) (hs : ws.sum < 4294967296) (HR : Hid (Row .u32 25 g w ws w)) :
    Calls Try.prog 9 #[.slice (some ⟨g, 0, none⟩) n cap] w fun e w' => e = .returned (.tuple #[]) ∧ Row .u32 25 g w (Huff.hl ws) w' := by
  go_enter Try.func9, Try.ntmps9
  go_wp2_with fail
  refine (hl_any g cap n ws w HN hn hn' hs HR).mono ?_
  rintro e w' ⟨rfl, hR⟩
  go_wp2
  go_end0
  exact ⟨rfl, hR⟩
end Go.Proofs.Qxb6605568a
