/-
  ZZReaderMore (function 14).
-/
import Derived.Test.Qxb6605588aMore
namespace Go.Proofs.Qxb6605588a
open Go.RowKit
set_option linter.unusedVariables false

set_option maxRecDepth 100000 in
set_option maxHeartbeats 2000000 in
theorem zzmore_any (g n cap i x : Nat) (c : Nat → Nat) (w : World) (hi : i ≤ n) (hn : n ≤ 1048576) (hx : x < 256) (hg : g < w.heap.size)
    (HJ : Hid (∀ j, SE c n i j → j < n)) (HC : Hid (∀ t, t < n → w.cell? ⟨g, t, none⟩ = some (.int .u8 ((c t : Nat) : Int)))) :
    Calls Try.prog 14 #[.slice (some ⟨g, 0, none⟩) n cap, .int .i64 (i : Int), .int .u8 (x : Int)] w fun e w' => ∃ b m, e = .returned (.tuple #[.bool b, .int .i64 ((m : Nat) : Int)]) ∧ MoreSpec c n x i b m ∧ Below w.heap.size w w' := by
  go_enter Try.func14, Try.ntmps14
  go_wp2_with fail
  have hr : RW w.heap.size g n cap i (w.alloc (.cells #[.slice (some ⟨g, 0, none⟩) n cap, .int .i64 (i : Int)] 39)) (w.alloc (.cells #[.slice (some ⟨g, 0, none⟩) n cap, .int .i64 (i : Int)] 39)) := by
    refine ⟨?_, ?_, ?_, rfl, rfl, rfl, rfl, fun _ _ => rfl⟩
    · rw [World.cell?_alloc_at _ _ _ _ rfl]; rfl
    · rw [World.cell?_alloc_at _ _ _ _ rfl]; rfl
    · rw [World.frozen?_alloc_at _ _ _ _ rfl]
  have HC1 : Hid (∀ t, t < n → (w.alloc (.cells #[.slice (some ⟨g, 0, none⟩) n cap, .int .i64 (i : Int)] 39)).cell? ⟨g, t, none⟩ = some (.int .u8 ((c t : Nat) : Int))) := fun t ht => by
    rw [World.cell?_alloc_past _ _ _ hg]; exact HC.out t ht
  refine (more_any w.heap.size g n cap i x c _ hi hn hx hr (by omega) HJ HC1).mono ?_
  rintro e w1 ⟨b, m, rfl, hm, hrm⟩
  have HM : Hid (MoreSpec c n x i b m) := hm
  have HB : Hid (Below w.heap.size w w1) := by
    refine ⟨hrm.os, hrm.tape, hrm.output, ?_, ?_⟩
    · have := hrm.size; simp at this; omega
    · intro k hk
      exact (hrm.block k (by omega)).trans (Below.heap_alloc w _ k hk)
  have c1 := hrm.c1
  clear hm hrm hr HC1
  go_wp2_with fail
  go_big_quiet (fail)
  go_wp2
  go_ret2
  exact ⟨b, m, rfl, HM.out, HB.out.trans ⟨rfl, rfl, rfl, Nat.le_refl _, fun _ _ => rfl⟩⟩
end Go.Proofs.Qxb6605588a
