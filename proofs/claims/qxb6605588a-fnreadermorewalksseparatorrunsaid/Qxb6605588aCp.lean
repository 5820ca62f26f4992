/-
  zzCopyBytes (function 13).
-/
import Derived.Test.Qxb6605588aHv
namespace Go.Proofs.Qxb6605588a
open Go.RowKit
set_option linter.unusedVariables false

def halfc (c : Nat → Nat) (n k : Nat) : List Int := (List.range n).map fun t => if t < k then ((c t : Nat) : Int) else 0
theorem halfc_length (c : Nat → Nat) (n k : Nat) : (halfc c n k).length = n := by simp [halfc]
theorem halfc_zero (c : Nat → Nat) (n : Nat) : halfc c n 0 = List.replicate n 0 := by
  apply List.ext_getElem
  · simp [halfc]
  · intro i h1 h2; simp [halfc]
theorem halfc_set (c : Nat → Nat) (n k : Nat) (h : k < n) : (halfc c n k).set k ((c k : Nat) : Int) = halfc c n (k + 1) := by
  apply List.ext_getElem
  · simp [halfc]
  · intro i h1 h2
    simp only [halfc, List.getElem_set, List.getElem_map, List.getElem_range]
    by_cases hi : k = i
    · subst hi; simp
    · by_cases hik : i < k
      · simp [hi, hik, show i < k + 1 by omega]
      · simp [hi, hik, show ¬ i < k + 1 by omega]
theorem halfc_get (c : Nat → Nat) (n k t : Nat) (h : t < n) (hk : t < k) : (halfc c n k).getD t 0 = ((c t : Nat) : Int) := by
  simp [halfc, List.getD, h, hk]

set_option maxHeartbeats 1000000 in
theorem copy_row (b off n cap : Nat) (c : Nat → Nat) (hn : n ≤ 1048576) (w : World) (hb : b < w.heap.size) (HC : Hid (∀ t, t < n → w.cell? ⟨b, off + t, none⟩ = some (.int .u8 ((c t : Nat) : Int)))) :
    Calls Try.prog 13 #[.slice (some ⟨b, off, none⟩) n cap] w fun e w' => e = .returned (.slice (some ⟨w.heap.size, 0, none⟩) n n) ∧ Below w.heap.size w w' ∧ w.heap.size < w'.heap.size ∧
      ∀ t, t < n → w'.cell? ⟨w.heap.size, t, none⟩ = some (.int .u8 ((c t : Nat) : Int)) := by
  have q : ∀ (w : World) (a : Option Addr) (n c n' c' : Nat), (binOp .eql 22 (.slice a n c) (.slice none n' c')).run Try.prog w = .ok (.bool a.isNone) w := fun w a n c n' c' => Lib.run_eql_slice_nil w _ _ a n c n' c' Try.underlying22
  have mk := make22 n (by omega)
  go_enter Try.func13, Try.ntmps13
  go_wp2
  go_loopw [4] (fun i wr => ∃ k : Nat, k ≤ n ∧ i = .int .i64 k ∧ wr = w.alloc (.cells (cellsOf .u8 (halfc c n k)) 5)) (fun i _ => n - (intOf i).toNat)
  case atStart => exact ⟨0, Nat.zero_le _, rfl, by rw [halfc_zero]⟩
  case round =>
    obtain ⟨k, hk, rfl, rfl⟩ := hrel
    by_cases hlt : k < n
    · have hcell := HC.out k hlt
      have hold : (cellsOf .u8 (halfc c n k))[k]? = some (.int .u8 ((halfc c n k).getD k 0)) := cellsOf_get _ _ _ (by rw [halfc_length]; exact hlt)
      go_wp2
      go_roundw
      case rel => exact ⟨k + 1, by omega, by go_num, by rw [← halfc_set c n k hlt, ← cellsOf_set]⟩
      case measure => simp [intOf]; omega
    · have : k = n := by omega
      subst this
      go_wp2
      go_ret
      refine ⟨rfl, (Below.refl _ _).alloc (Nat.le_refl _) _, by simp, fun t ht => ?_⟩
      rw [World.cell?_alloc_at _ _ _ _ rfl, cellsOf_get _ _ _ (by rw [halfc_length]; exact ht), halfc_get c k k t ht ht]
end Go.Proofs.Qxb6605588a
