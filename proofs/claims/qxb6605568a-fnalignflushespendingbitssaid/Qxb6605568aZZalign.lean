/-
  'ZZalign' (function 16): a block is made, align is called, three fields come back.
-/
import Derived.Test.Qxb6605568aAlign
import Derived.Deep.QuietTactic
import Derived.BigQuiet
namespace Go.Proofs.Qxb6605568a
open Go.RowKit
set_option linter.unusedVariables false

theorem built58 (a : Option Addr) (n c : Nat) (x y : Int) : ∃ cs : Array Value, Try.prog.built 58 [(3, .slice a n c), (4, .int .u64 x), (5, .int .u64 y)] = some cs ∧ cs[317]? = some (.slice a n c) ∧ cs[318]? = some (.int .u64 x) ∧ cs[319]? = some (.int .u64 y) :=
  ⟨(Try.prog.built 58 [(3, .slice a n c), (4, .int .u64 x), (5, .int .u64 y)]).getD #[], by kernel_rfl, by kernel_rfl, by kernel_rfl, by kernel_rfl⟩

/-- A literal of a struct, its cells under one letter. -/
theorem wpList_build_as {P : Program} {ops : Array Oper} {rest : List Oper} {o : Oper} {a : Act} {w : World} {Q : Exit → Act → World → Prop} (hg : o.guard = none) (t : TypeId) (parts : Array (Nat × Operand)) (ho : o.op = .build t parts)
    (vals : List (Nat × Value)) (hv : (parts.map fun (i, x) => (i, a.eval x)).toList = vals) (cells : Array Value) (hc : P.built t vals = some cells)
    (h : wpList P ops Q rest (a.put o.dst (.agg cells)) w) : wpList P ops Q (o :: rest) a w := by
  subst hv
  refine wpList_build hg t parts ho (by rw [hc]; rfl) ?_
  rw [hc]
  exact h

set_option maxRecDepth 100000 in
set_option maxHeartbeats 2000000 in
theorem zzalign_any (base : Nat) (a : Option Addr) (n c acc nb : Nat) (xs : List Int) (w : World)
    (hown : w.ownsRow base 5 1 (.slice a n c) n (xs.map (Value.int .u8))) (hn : n ≤ 1048576) (hnb : nb ≤ 65536) (hacc : acc < 18446744073709551616) (hbase : base ≤ w.heap.size) :
    Calls Try.prog 16 #[.slice a n c, .int .u64 acc, .int .u64 nb] w fun e w' => ∃ v, e = .returned (.tuple #[v, .int .u64 ((acc / 256 ^ ((nb + 7) / 8) : Nat) : Int), .int .u64 0]) ∧
      w'.ownsRow base 5 1 v (n + (nb + 7) / 8) ((xs ++ bytesAt acc ((nb + 7) / 8)).map (Value.int .u8)) ∧ w.grownBy w' (Value.slice a n c).ownBlock ∧ (nb = 0 → v = .slice a n c) := by
  obtain ⟨cs, hcs, c3, c4, c5⟩ := built58 a n c acc nb
  obtain ⟨r, hr⟩ : ∃ r, acc / 256 ^ ((nb + 7) / 8) = r := ⟨_, rfl⟩
  have HR : Hid (acc / 256 ^ ((nb + 7) / 8) = r) := hr
  rw [hr]
  clear hr
  go_enter Try.func16, Try.ntmps16
  go_wp2_with (first | (refine wpList_build_as (by rfl) 58 _ (by rfl) _ (by simp [Act.eval]) cs hcs ?_))
  have h0 : AInv w.heap.size base (.slice a n c) n acc nb xs (w.alloc (.cells cs 58)) 0 (.slice a n c) acc nb (w.alloc (.cells cs 58)) := by
    refine ⟨?_, ?_, ?_, ?_, ?_, ?_, ?_, .inl rfl, ?_, KeptFr.refl _ _ _, fun _ => rfl, by simp, by simp⟩
    · rw [World.cell?_alloc_at _ _ _ _ rfl]; exact c3
    · rw [World.cell?_alloc_at _ _ _ _ rfl]; exact c4
    · rw [World.cell?_alloc_at _ _ _ _ rfl]; exact c5
    · rw [World.frozen?_alloc_at _ _ _ _ rfl]
    · rw [World.frozen?_alloc_at _ _ _ _ rfl]
    · rw [World.frozen?_alloc_at _ _ _ _ rfl]
    · simpa [bytesAt] using hown.alloc (.cells cs 58)
    · intro e; have := (hown.lt _ e).2; omega
  refine (align_any w.heap.size base (.slice a n c) n acc nb xs _ h0 hn hnb hacc (by simp; omega)).mono ?_
  rintro e w' ⟨rfl, v, hI⟩
  have k3 := hI.c3
  have k4 := hI.c4
  have k5 := hI.c5
  have HI : Hid (AInv w.heap.size base (.slice a n c) n acc nb xs (w.alloc (.cells cs 58)) ((nb + 7) / 8) v (acc / 256 ^ ((nb + 7) / 8)) 0 w') := hI
  clear hI h0 hown c3 c4 c5 hcs
  rw [HR.out] at k4 HI
  go_wp2
  go_quiet (fail)
  go_wp2
  go_ret3
  have hI := HI.out
  refine ⟨v, rfl, hI.own, ⟨hI.kept.os, hI.kept.tape, hI.kept.output, ?_, ?_⟩, ?_⟩
  · show w.heap.size ≤ w'.heap.size
    have := hI.kept.size; simp at this; omega
  · intro k hk hne
    exact (hI.kept.block k (by simp; omega) (by omega) hne).trans (Below.heap_alloc w _ k hk)
  · intro h; exact hI.first (by omega)
end Go.Proofs.Qxb6605568a
