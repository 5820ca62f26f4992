/-
  White space: isJSONSpace (function 12), spaceEnd (function 20).
-/
import Derived.Test.Qxb6605588aRows
import Derived.WalkKit
import Derived.WalkSpells
import Derived.Lib.SliceRun
import Derived.Deep.LoopGhost
import Derived.Deep.QuietTactic
import Derived.BigQuiet
namespace Go.Proofs.Qxb6605588a
open Go.RowKit
set_option linter.unusedVariables false

def sp (x : Nat) : Bool := x == 32 || x == 9 || x == 10 || x == 13
theorem sp_cases (x : Nat) : (sp x = true ∧ (x = 32 ∨ x = 9 ∨ x = 10 ∨ x = 13)) ∨ (sp x = false ∧ x ≠ 32 ∧ x ≠ 9 ∧ x ≠ 10 ∧ x ≠ 13) := by
  unfold sp
  by_cases h1 : x = 32 <;> by_cases h2 : x = 9 <;> by_cases h3 : x = 10 <;> by_cases h4 : x = 13 <;> simp [h1, h2, h3, h4]

/-- j: the end of the white space that begins at i. -/
structure SE (c : Nat → Nat) (n i j : Nat) : Prop where
  lo : i ≤ j
  hi : j ≤ n
  all : ∀ t, i ≤ t → t < j → sp (c t) = true
  stop : j < n → sp (c j) = false

theorem SE.uniq {c : Nat → Nat} {n i j j' : Nat} (h : SE c n i j) (h' : SE c n i j') : j = j' := by
  rcases Nat.lt_trichotomy j j' with a | a | a
  · have h1 := h.stop (by have := h'.hi; omega)
    have h2 := h'.all j h.lo a
    rw [h1] at h2
    cases h2
  · exact a
  · have h1 := h'.stop (by have := h.hi; omega)
    have h2 := h.all j' h'.lo a
    rw [h1] at h2
    cases h2

set_option maxHeartbeats 1000000 in
theorem isSpace_any (x : Nat) (w : World) : Calls Try.prog 12 #[.int .u8 (x : Int)] w fun e w' => e = .returned (.bool (sp x)) ∧ w' = w := by
  rcases sp_cases x with ⟨h, h'⟩ | ⟨h, h1, h2, h3, h4⟩
  · rw [h]
    clear h
    rcases h' with rfl | rfl | rfl | rfl
    all_goals
      go_enter Try.func12, Try.ntmps12
      go_wp2
      go_ret
      exact ⟨rfl, rfl⟩
  · rw [h]
    clear h
    have e1 : ((x : Int) == 32) = false := by simp; omega
    have e2 : ((x : Int) == 9) = false := by simp; omega
    have e3 : ((x : Int) == 10) = false := by simp; omega
    have e4 : ((x : Int) == 13) = false := by simp; omega
    clear h1 h2 h3 h4
    go_enter Try.func12, Try.ntmps12
    go_wp2
    go_ret
    exact ⟨rfl, rfl⟩

set_option maxRecDepth 100000 in
set_option maxHeartbeats 2000000 in
theorem spaceEnd_any (g n cap i : Nat) (c : Nat → Nat) (w : World) (hi : i ≤ n) (hn : n ≤ 1048576) (HC : Hid (∀ t, t < n → w.cell? ⟨g, t, none⟩ = some (.int .u8 ((c t : Nat) : Int)))) :
    Calls Try.prog 20 #[.slice (some ⟨g, 0, none⟩) n cap, .int .i64 i] w fun e w' => ∃ j : Nat, e = .returned (.int .i64 (j : Int)) ∧ SE c n i j ∧ w' = w := by
  go_enter Try.func20, Try.ntmps20
  go_wp2
  go_loopg [1] (n - i) (fun k s1 wx => ∃ t : Nat, s1 = .int .i64 t ∧ (i ≤ t ∧ t + k ≤ n ∧ n ≤ t + k) ∧ Hid (∀ u, i ≤ u → u < t → sp (c u) = true) ∧ wx = w)
  case atStart => exact ⟨i, rfl, by omega, (fun u h1 h2 => by omega), rfl⟩
  case round =>
    obtain ⟨t, rfl, ⟨ht1, ht2, ht3⟩, HA, rfl⟩ := hrel
    by_cases htn : t < n
    · have ct := HC.out t htn
      obtain ⟨x, hx⟩ : ∃ x, x = c t := ⟨_, rfl⟩
      rw [← hx] at ct
      have i1 : (t : Int) < (n : Int) := by omega
      have HX : Hid (x = c t) := hx
      clear hx
      rcases sp_cases x with ⟨hs, h'⟩ | ⟨hs, q1, q2, q3, q4⟩
      · have HA2 : Hid (∀ u, i ≤ u → u < t + 1 → sp (c u) = true) := by
          intro u h1 h2
          by_cases hu : u = t
          · subst hu; rw [← HX.out]; exact hs
          · exact HA.out u h1 (by omega)
        clear hs HX HA
        rcases h' with rfl | rfl | rfl | rfl
        all_goals
          go_wp2
          go_roundg (gk - 1)
          case measure => omega
          case rel => exact ⟨t + 1, by go_num, by omega, HA2, by first | rfl | trivial⟩
      · have e1 : ((x : Int) == 32) = false := by simp; omega
        have e2 : ((x : Int) == 9) = false := by simp; omega
        have e3 : ((x : Int) == 10) = false := by simp; omega
        have e4 : ((x : Int) == 13) = false := by simp; omega
        have HS : Hid (SE c n i t) := ⟨ht1, by omega, HA.out, fun _ => by rw [← HX.out]; exact hs⟩
        clear q1 q2 q3 q4 hs HX HA
        go_wp2
        go_ret
        exact ⟨t, rfl, HS.out, rfl⟩
    · have HS : Hid (SE c n i t) := ⟨ht1, by omega, HA.out, fun h => by omega⟩
      clear HA
      go_wp2
      go_ret
      exact ⟨t, rfl, HS.out, rfl⟩
end Go.Proofs.Qxb6605588a
