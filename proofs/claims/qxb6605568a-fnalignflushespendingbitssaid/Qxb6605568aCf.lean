/-
  'FnAlignClosedForm' (function 5): its walks.
-/
import Derived.Test.Qxb6605568aClone2
namespace Go.Proofs.Qxb6605568a
open Go.RowKit
set_option linter.unusedVariables false

theorem clone_n (x : Addr) (n cap : Nat) (xs : List Int) (hn : Hid (xs.length = n)) (hx : n ≤ 1048576) (w : World) (hc : RowAt .u8 w x xs) :
    Calls Try.prog 15 #[.slice (some x) n cap] w fun e w' => e = .returned (.slice (some ⟨w.heap.size, 0, none⟩) n n) ∧ w' = w.alloc (.cells (cellsOf .u8 xs) 5) := by
  have hn' := hn.out
  subst hn'
  exact clone_some x cap xs hx w hc

/-- What ZZalign leaves, where it leaves a slice that is not nil: its cells; all old blocks but H. -/
theorem owned_cells {w : World} {base n : Nat} {v : Value} {xs : List Int} (h : w.ownsRow base 5 1 v n (xs.map (Value.int .u8))) (hv : v ≠ .slice none 0 0) :
    ∃ g cap, v = .slice (some ⟨g, 0, none⟩) n cap ∧ ∀ i, i < n → w.cell? ⟨g, i, none⟩ = some (.int .u8 (xs.getD i 0)) := by
  rcases h.2 with ⟨h', _⟩ | ⟨g, cap, cur, rfl, _⟩
  · exact absurd h' hv
  · refine ⟨g, cap, rfl, fun i hi => ?_⟩
    have hl : xs.length = n := by simpa using h.1
    rw [h.cellAt i (by omega)]
    simp [List.getD, show i < xs.length by omega]

theorem zz_some (H n acc nb k r : Nat) (xs : List Int) (w : World) (HN : Hid (xs.length = n)) (HK : Hid ((nb + 7) / 8 = k)) (HR : Hid (acc / 256 ^ k = r)) (hh : w.heap[H]? = some (.cells (cellsOf .u8 xs) 5 (0, 0)))
    (hn : n ≤ 1048576) (hnb : nb ≤ 65536) (hacc : acc < 18446744073709551616) :
    Calls Try.prog 16 #[.slice (some ⟨H, 0, none⟩) n n, .int .u64 acc, .int .u64 nb] w fun e w' => ∃ g cap, e = .returned (.tuple #[.slice (some ⟨g, 0, none⟩) (n + k) cap, .int .u64 r, .int .u64 0]) ∧
      (∀ i, i < n + k → w'.cell? ⟨g, i, none⟩ = some (.int .u8 ((xs ++ bytesAt acc k).getD i 0))) ∧ w.grownBy w' (some H) := by
  have h1 := HN.out
  have h2 := HK.out
  have h3 := HR.out
  subst h2
  subst h3
  have hH : H < w.heap.size := (Array.getElem?_eq_some_iff.1 hh).1
  have hown : w.ownsRow H 5 1 (.slice (some ⟨H, 0, none⟩) n n) n (xs.map (Value.int .u8)) :=
    ⟨by simpa using h1, .inr ⟨H, n, cellsOf .u8 xs, rfl, Nat.le_refl _, hh, Nat.le_refl _, by unfold maxLen; omega, by rw [cellsOf_size]; omega, by rw [List.take_of_length_le (by simp [cellsOf]; omega)]; simp [cellsOf]⟩⟩
  refine (zzalign_any H (some ⟨H, 0, none⟩) n n acc nb xs w hown hn hnb hacc (by omega)).mono ?_
  rintro e w' ⟨v, rfl, ho, hg, hv⟩
  have hv' : v ≠ .slice none 0 0 := by
    intro e
    subst e
    rcases ho.2 with ⟨_, h0⟩ | ⟨g, cap, cur, e, _⟩
    · have := hv (by omega)
      simp at this
    · simp at e
  obtain ⟨g, cap, rfl, hc⟩ := owned_cells ho hv'
  exact ⟨g, cap, rfl, hc, hg⟩

theorem zz_nil (n acc nb k r : Nat) (w : World) (HK : Hid ((nb + 7) / 8 = k)) (HR : Hid (acc / 256 ^ k = r)) (hnb : nb ≤ 65536) (hacc : acc < 18446744073709551616) :
    Calls Try.prog 16 #[.slice none 0 0, .int .u64 acc, .int .u64 nb] w fun e w' => ∃ v, e = .returned (.tuple #[v, .int .u64 r, .int .u64 0]) ∧
      ((k = 0 ∧ v = .slice none 0 0) ∨ ∃ g cap, 0 < k ∧ v = .slice (some ⟨g, 0, none⟩) k cap ∧ (∀ i, i < k → w'.cell? ⟨g, i, none⟩ = some (.int .u8 ((bytesAt acc k).getD i 0)))) ∧ w.grownBy w' none := by
  have h2 := HK.out
  have h3 := HR.out
  subst h2
  subst h3
  refine (zzalign_any w.heap.size none 0 0 acc nb [] w (World.ownsRow_nil _ _ _ _) (by omega) hnb hacc (Nat.le_refl _)).mono ?_
  rintro e w' ⟨v, rfl, ho, hg, hv⟩
  refine ⟨v, rfl, ?_, hg⟩
  simp only [Nat.zero_add, List.nil_append] at ho
  by_cases h0 : v = .slice none 0 0
  · left
    refine ⟨?_, h0⟩
    subst h0
    rcases ho.2 with ⟨_, h0⟩ | ⟨g, cap, cur, e, _⟩
    · exact h0
    · simp at e
  · right
    have hp : 0 < (nb + 7) / 8 := by
      by_cases hz : nb = 0
      · exact absurd (hv hz) h0
      · omega
    obtain ⟨g, cap, rfl, hc⟩ := owned_cells ho h0
    exact ⟨g, cap, hp, rfl, hc⟩

theorem shr_eq (acc k : Nat) : ((acc : Int) / 2 ^ (8 * k)) = ((acc / 256 ^ k : Nat) : Int) := by
  have : (256 : Nat) ^ k = 2 ^ (8 * k) := by rw [Nat.pow_mul]
  rw [this]
  simp
theorem shr_zero (acc k : Nat) (h : acc < 18446744073709551616) (hk : 8 ≤ k) : acc / 256 ^ k = 0 := by
  apply Nat.div_eq_of_lt
  have : 256 ^ 8 ≤ 256 ^ k := Nat.pow_le_pow_right (by omega) hk
  have e : (256 : Nat) ^ 8 = 18446744073709551616 := by decide
  omega

theorem cf_long (a0 : Option Addr) (len0 cap0 : Nat) (a1 a2 : Int) (w : World) (h : 1048576 < len0) (hm : len0 ≤ maxLen) :
    Calls Try.prog 5 #[.slice a0 len0 cap0, .int .u64 a1, .int .u64 a2] w fun e w' => e = .returned (.bool true) ∧ w' = w := by
  unfold maxLen at hm
  go_enter Try.func5, Try.ntmps5
  go_wp2
  go_ret
  exact ⟨rfl, rfl⟩

theorem cf_many (a0 : Option Addr) (len0 cap0 : Nat) (a1 a2 : Int) (w : World) (h : len0 ≤ 1048576) (hm : 65536 < a2) :
    Calls Try.prog 5 #[.slice a0 len0 cap0, .int .u64 a1, .int .u64 a2] w fun e w' => e = .returned (.bool true) ∧ w' = w := by
  go_enter Try.func5, Try.ntmps5
  go_wp2
  go_ret
  exact ⟨rfl, rfl⟩
end Go.Proofs.Qxb6605568a
