/-
  separatorRun (function 16).
-/
import Derived.Test.Qxb6605588aSt
import Derived.OwnWalk
namespace Go.Proofs.Qxb6605588a
open Go.RowKit
set_option linter.unusedVariables false

/-- The commas between i and k. -/
def cm (c : Nat → Nat) (i : Nat) : Nat → Nat
  | 0 => 0
  | k + 1 => cm c i k + (if i ≤ k ∧ c k = 44 then 1 else 0)
theorem cm_none (c : Nat → Nat) (i k : Nat) (h : k ≤ i) : cm c i k = 0 := by
  induction k with
  | zero => rfl
  | succ k ih => rw [cm, ih (by omega), if_neg (by omega)]
theorem cm_le (c : Nat → Nat) (i k : Nat) : cm c i k ≤ k := by
  induction k with
  | zero => exact Nat.le_refl _
  | succ k ih => rw [cm]; split <;> omega
theorem cm_same (c : Nat → Nat) (i p d : Nat) (h : ∀ t, p ≤ t → t < p + d → c t ≠ 44) : cm c i (p + d) = cm c i p := by
  induction d with
  | zero => rfl
  | succ d ih =>
    rw [← Nat.add_assoc, cm, ih (fun t h1 h2 => h t h1 (by omega)), if_neg (fun hh => h (p + d) (by omega) (by omega) hh.2)]
    omega
theorem cm_comma (c : Nat → Nat) (i k : Nat) (hi : i ≤ k) (h : c k = 44) : cm c i (k + 1) = cm c i k + 1 := by rw [cm, if_pos ⟨hi, h⟩]
theorem cm_other (c : Nat → Nat) (i k : Nat) (h : c k ≠ 44) : cm c i (k + 1) = cm c i k := by rw [cm, if_neg (fun hh => h hh.2)]; omega

/-- A run of separators from i to the closer x at k. -/
structure SR (c : Nat → Nat) (n x i k : Nat) : Prop where
  x1 : x ≠ 44
  x2 : sp x = false
  lo : i ≤ k
  hi : k < n
  at' : c k = x
  run : ∀ t, i ≤ t → t < k → c t ≠ x ∧ (c t = 44 ∨ sp (c t) = true)

theorem sep_neg (a : Option Addr) (n cap : Nat) (i : Int) (x : Int) (w : World) (h : n ≤ 1048576) (hi : i < 0) :
    Calls Try.prog 16 #[.slice a n cap, .int .i64 i, .int .u8 x] w fun e w' => e = .returned (.tuple #[.int .i64 0, .int .i64 0, .bool false]) ∧ w' = w := by
  go_enter Try.func16, Try.ntmps16
  go_wp2
  go_ret3
  exact ⟨rfl, rfl⟩
theorem sep_past (a : Option Addr) (n cap : Nat) (i : Int) (x : Int) (w : World) (h : n ≤ 1048576) (hi : (n : Int) < i) :
    Calls Try.prog 16 #[.slice a n cap, .int .i64 i, .int .u8 x] w fun e w' => e = .returned (.tuple #[.int .i64 0, .int .i64 0, .bool false]) ∧ w' = w := by
  have hi0 : ¬ i < 0 := by omega
  have d0 : decide (i < 0) = false := by simp; omega
  go_enter Try.func16, Try.ntmps16
  go_wp2
  go_ret3
  exact ⟨rfl, rfl⟩

set_option maxRecDepth 100000 in
set_option maxHeartbeats 2000000 in
theorem sep_none (a : Option Addr) (cap x : Nat) (w : World) :
    Calls Try.prog 16 #[.slice a 0 cap, .int .i64 0, .int .u8 (x : Int)] w fun e w' => e = .returned (.tuple #[.int .i64 0, .int .i64 0, .bool false]) ∧ w' = w := by
  by_cases h44 : x = 44
  · have e4 : ((x : Int) == 44) = true := by simp; omega
    clear h44
    go_enter Try.func16, Try.ntmps16
    go_wp2
    go_ret3
    exact ⟨rfl, rfl⟩
  · have e4 : ((x : Int) == 44) = false := by simp; omega
    cases hs : sp x
    · go_enter Try.func16, Try.ntmps16
      go_wp2_with (first | (go_at_call 12; refine (isSpace_is x false hs _).mono ?_; rintro e w' ⟨rfl, hw'⟩; subst w'))
      go_loopg [9, 10, 11] 0 (fun k s9 s10 s11 wx => s10 = .int .i64 0 ∧ wx = w)
      case atStart => exact ⟨rfl, rfl⟩
      case round =>
        obtain ⟨rfl, rfl⟩ := hrel
        go_wp2_with fail
        go_ret3
        exact ⟨rfl, rfl⟩
    · go_enter Try.func16, Try.ntmps16
      go_wp2_with (first | (go_at_call 12; refine (isSpace_is x true hs _).mono ?_; rintro e w' ⟨rfl, hw'⟩; subst w'))
      go_ret3
      exact ⟨rfl, rfl⟩

set_option maxRecDepth 100000 in
set_option maxHeartbeats 4000000 in
theorem sep_any (b off n cap i x : Nat) (c : Nat → Nat) (w : World) (hi : i ≤ n) (hn : n ≤ 1048576) (HC : Hid (∀ t, t < n → w.cell? ⟨b, off + t, none⟩ = some (.int .u8 ((c t : Nat) : Int)))) :
    Calls Try.prog 16 #[.slice (some ⟨b, off, none⟩) n cap, .int .i64 (i : Int), .int .u8 (x : Int)] w fun e w' => ∃ (k q : Nat) (ok : Bool), e = .returned (.tuple #[.int .i64 (k : Int), .int .i64 (q : Int), .bool ok]) ∧ (ok = true → SR c n x i k ∧ q = cm c i k) ∧ w' = w := by
  have u2 : decide ((n : Int) < (i : Int)) = false := by simp; omega
  have u3 : decide (n < i) = false := by simp; omega
  by_cases h44 : x = 44
  · have e4 : ((x : Int) == 44) = true := by simp; omega
    clear h44
    go_enter Try.func16, Try.ntmps16
    go_wp2
    go_ret3
    exact ⟨0, 0, false, rfl, (fun h => by cases h), rfl⟩
  · have e4 : ((x : Int) == 44) = false := by simp; omega
    cases hs : sp x
    · have HX : Hid (x ≠ 44 ∧ sp x = false) := ⟨h44, hs⟩
      clear h44
      go_enter Try.func16, Try.ntmps16
      go_wp2_with (first | (go_at_call 12; refine (isSpace_is x false hs _).mono ?_; rintro e w' ⟨rfl, hw'⟩; subst w'))
      go_loopg [9, 10, 11] (n - i) (fun k s9 s10 s11 wx => ∃ p q : Nat, s10 = .int .i64 p ∧ s9 = .int .i64 q ∧ (i ≤ p ∧ p + k ≤ n ∧ n ≤ p + k ∧ q ≤ p) ∧ Hid (q = cm c i p ∧ ∀ t, i ≤ t → t < p → c t ≠ x ∧ (c t = 44 ∨ sp (c t) = true)) ∧ wx = w)
      case atStart => exact ⟨i, 0, rfl, rfl, by omega, ⟨(cm_none c i i (Nat.le_refl _)).symm, fun t h1 h2 => by omega⟩, rfl⟩
      case round =>
        obtain ⟨p, q, rfl, rfl, ⟨hp1, hp2, hp3, hq⟩, HQ, hwr⟩ := hrel
        subst wr
        by_cases hpn : p < n
        · have cp := HC.out p hpn
          obtain ⟨y, hy⟩ : ∃ y, y = c p := ⟨_, rfl⟩
          rw [← hy] at cp
          have HY : Hid (y = c p) := hy
          clear hy
          have i1 : (p : Int) < (n : Int) := by omega
          by_cases hyx : y = x
          · have ex : ((y : Int) == (x : Int)) = true := by simp; omega
            have HR : Hid (SR c n x i p) := ⟨HX.out.1, HX.out.2, hp1, hpn, by rw [← HY.out]; exact hyx, HQ.out.2⟩
            clear hyx
            go_wp2_with fail
            go_ret3
            exact ⟨p, q, true, rfl, fun _ => ⟨HR.out, HQ.out.1⟩, rfl⟩
          · have ex : ((y : Int) == (x : Int)) = false := by simp; omega
            by_cases hy4 : y = 44
            · have y4 : ((y : Int) == 44) = true := by simp; omega
              have HR : Hid (q + 1 = cm c i (p + 1) ∧ ∀ t, i ≤ t → t < p + 1 → c t ≠ x ∧ (c t = 44 ∨ sp (c t) = true)) := by
                refine ⟨?_, ?_⟩
                · rw [cm_comma c i p hp1 (by rw [← HY.out]; exact hy4), ← HQ.out.1]
                · intro t h1 h2
                  by_cases ht : t = p
                  · subst ht; rw [← HY.out]; exact ⟨hyx, .inl hy4⟩
                  · exact HQ.out.2 t h1 (by omega)
              clear hyx hy4
              go_wp2_with fail
              go_roundg (gk - 1)
              case measure => omega
              case rel => exact ⟨p + 1, q + 1, by go_num, by go_num, by omega, HR, by first | rfl | trivial⟩
            · have y4 : ((y : Int) == 44) = false := by simp; omega
              cases hsy : sp y
              · clear hyx hy4
                go_wp2_with (first | (go_at_call 12; refine (isSpace_is y false hsy _).mono ?_; rintro e w' ⟨rfl, hw'⟩; subst w'))
                go_ret3
                exact ⟨0, 0, false, rfl, (fun h => by cases h), rfl⟩
              · have HR : Hid (q = cm c i (p + 1) ∧ ∀ t, i ≤ t → t < p + 1 → c t ≠ x ∧ (c t = 44 ∨ sp (c t) = true)) := by
                  refine ⟨?_, ?_⟩
                  · rw [cm_other c i p (by rw [← HY.out]; exact hy4), ← HQ.out.1]
                  · intro t h1 h2
                    by_cases ht : t = p
                    · subst ht; rw [← HY.out]; exact ⟨hyx, .inr hsy⟩
                    · exact HQ.out.2 t h1 (by omega)
                clear hyx hy4
                go_wp2_with (first | (go_at_call 12; refine (isSpace_is y true hsy _).mono ?_; rintro e w' ⟨rfl, hw'⟩; subst w'))
                go_roundg (gk - 1)
                case measure => omega
                case rel => exact ⟨p + 1, q, by go_num, by go_num, by omega, HR, by first | rfl | trivial⟩
        · have i1 : ¬ (p : Int) < (n : Int) := by omega
          go_wp2_with fail
          go_ret3
          first
            | exact ⟨0, 0, false, rfl, (fun h => by cases h), rfl⟩
            | exact ⟨0, 0, .inl ⟨rfl, by simp⟩⟩
            | exact ⟨0, 0, .inl ⟨rfl, rfl⟩⟩
    · clear h44
      go_enter Try.func16, Try.ntmps16
      go_wp2_with (first | (go_at_call 12; refine (isSpace_is x true hs _).mono ?_; rintro e w' ⟨rfl, hw'⟩; subst w'))
      go_ret3
      exact ⟨0, 0, false, rfl, (fun h => by cases h), rfl⟩
end Go.Proofs.Qxb6605588a
