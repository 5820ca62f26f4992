/-
  The reader: skipSpace (function 19), more (function 18), ZZReaderMore (function 14).
-/
import Derived.Test.Qxb6605588aSpace
import Derived.Below
import Derived.Deep.RegionWith
namespace Go.Proofs.Qxb6605588a
open Go.RowKit
set_option linter.unusedVariables false

/-- wr: the reader in block R holds the row at g and stands at i; all else is as in w0. -/
structure RW (R g n cap i : Nat) (w0 wr : World) : Prop where
  c0 : wr.cell? ⟨R, 0, none⟩ = some (.slice (some ⟨g, 0, none⟩) n cap)
  c1 : wr.cell? ⟨R, 1, none⟩ = some (.int .i64 (i : Int))
  f1 : wr.frozen? ⟨R, 1, none⟩ = false
  os : wr.os = w0.os
  tape : wr.tape = w0.tape
  output : wr.output = w0.output
  size : wr.heap.size = w0.heap.size
  block : ∀ k, k ≠ R → wr.heap[k]? = w0.heap[k]?

theorem RW.drew {R g n cap i : Nat} {w0 wr : World} (h : RW R g n cap i w0 wr) : RW R g n cap i w0 wr.drew :=
  ⟨by simpa [go_sem] using h.c0, by simpa [go_sem] using h.c1, by simpa [go_sem] using h.f1, h.os, h.tape, h.output, h.size, h.block⟩
theorem RW.set {R g n cap i : Nat} {w0 wr : World} (h : RW R g n cap i w0 wr) (j : Nat) : RW R g n cap j w0 (wr.setCell ⟨R, 1, none⟩ (.int .i64 (j : Int))) := by
  have c0 := h.c0
  have c1 := h.c1
  have f1 := h.f1
  refine ⟨?_, ?_, ?_, h.os, h.tape, h.output, ?_, ?_⟩
  · simp [go_sem, c0]
  · simp [go_sem, c1]
  · simp [go_sem, f1]
  · simpa [World.setCell] using h.size
  · intro k hk
    exact (Below.heap_setCell _ _ _ _ hk).trans (h.block k hk)
theorem RW.trans {R g n cap i j : Nat} {w0 w1 w2 : World} (h : RW R g n cap i w0 w1) (h' : RW R g n cap j w1 w2) : RW R g n cap j w0 w2 :=
  ⟨h'.c0, h'.c1, h'.f1, h'.os.trans h.os, h'.tape.trans h.tape, h'.output.trans h.output, h'.size.trans h.size, fun k hk => (h'.block k hk).trans (h.block k hk)⟩
theorem RW.cell {R g n cap i : Nat} {w0 w1 : World} (h : RW R g n cap i w0 w1) {k o : Nat} (hk : k ≠ R) : w1.cell? ⟨k, o, none⟩ = w0.cell? ⟨k, o, none⟩ :=
  World.cell?_of_block (h.block k hk)

set_option maxRecDepth 100000 in
set_option maxHeartbeats 2000000 in
theorem skip_any (R g n cap i : Nat) (c : Nat → Nat) (w : World) (hi : i ≤ n) (hn : n ≤ 1048576) (h : RW R g n cap i w w) (HC : Hid (∀ t, t < n → w.cell? ⟨g, t, none⟩ = some (.int .u8 ((c t : Nat) : Int)))) :
    Calls Try.prog 19 #[.pointer (some ⟨R, 0, none⟩)] w fun e w' => e = .returned (.tuple #[]) ∧ ∃ j : Nat, SE c n i j ∧ RW R g n cap j w w' := by
  have c0 := h.c0
  have c1 := h.c1
  have f1 := h.f1
  have H : Hid (RW R g n cap i w w) := h
  have HD : Hid (∀ t, t < n → w.drew.cell? ⟨g, t, none⟩ = some (.int .u8 ((c t : Nat) : Int))) := fun t ht => by simpa [go_sem] using HC.out t ht
  clear h
  go_enter Try.func19, Try.ntmps19
  go_wp2
  go_region_with (go_at_call 20; refine (spaceEnd_any g n cap i c _ hi hn HD).mono ?_; rintro e w1 ⟨j, rfl, hj, rfl⟩; have HJ : Hid (SE c n i j) := hj; clear hj)
  all_goals go_wp2
  all_goals go_end0
  all_goals exact ⟨rfl, _, HJ.out, (H.out.set _).drew⟩
end Go.Proofs.Qxb6605588a
