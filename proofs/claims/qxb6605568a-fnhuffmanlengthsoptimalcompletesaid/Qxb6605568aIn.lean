/-
  A slice of uint32 that came in, as a list of natural numbers.
-/
import Derived.Test.Qxb6605568aClone32
import Derived.OpenShut
namespace Go.Proofs.Qxb6605568a
open Go.RowKit
set_option linter.unusedVariables false

/-- The first len numbers of what lies behind the address. -/
def seen (zs : List Int) (len : Nat) : List Nat := (zs.take len).map Int.toNat

theorem seen_facts (w : World) (x : Addr) (zs : List Int) (len : Nat) (hl : len ≤ zs.length) (h1 : 1 ≤ len) (hc : ∀ i, i < zs.length → w.cell? (x.add i) = some (.int .u32 (zs.getD i 0))) (hw : ∀ n ∈ zs, (Lit.int .u32 n).wf = true) :
    (seen zs len).length = len ∧ (∀ y ∈ seen zs len, y ≤ 4294967295) ∧ ∃ b off, x = ⟨b, off, none⟩ ∧ b < w.heap.size ∧ ∀ i, i < len → w.cell? ⟨b, off + i, none⟩ = some (.int .u32 (((seen zs len).getD i 0 : Nat) : Int)) := by
  refine ⟨by simp [seen]; omega, ?_, ?_⟩
  · intro y hy
    obtain ⟨z, hz, rfl⟩ := List.mem_map.1 hy
    have := bounds_u32 (hw z (List.mem_of_mem_take hz))
    omega
  · obtain ⟨b, off, spot⟩ := x
    have hspot : spot = none := by simpa [Addr.add] using World.cell?_spot (hc 0 (by omega))
    subst hspot
    refine ⟨b, off, rfl, by simpa [Addr.add] using World.block_lt_of_cell? w _ (hc 0 (by omega)), ?_⟩
    intro i hi
    have h := hc i (by omega)
    rw [Addr.add_lit] at h
    rw [h]
    have hi' : i < zs.length := by omega
    have hb := bounds_u32 (hw zs[i] (List.getElem_mem hi'))
    simp only [seen, List.getD, List.getElem?_map, List.getElem?_take_of_lt hi, List.getElem?_eq_getElem hi', Option.map_some, Option.getD_some]
    rw [Int.toNat_of_nonneg hb.1]
end Go.Proofs.Qxb6605568a
