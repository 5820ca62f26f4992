/-
  hexDigitValue (function 8).
-/
import Derived.Test.Qxb6605588aRb
namespace Go.Proofs.Qxb6605588a
open Go.RowKit
set_option linter.unusedVariables false

theorem dig_of (c i : Nat) (hi : i < 16) (h : c = lowB i ∨ c = upB i) : Dig c i := by
  rcases h with rfl | rfl
  · exact dig_low i hi
  · exact dig_up i hi

set_option maxRecDepth 100000 in
set_option maxHeartbeats 2000000 in
theorem hd_any (c : Nat) (w : World) (hc : c < 256) :
    Calls Try.prog 8 #[.int .u8 (c : Int)] w fun e w' => ∃ (d : Nat) (ok : Bool), e = .returned (.tuple #[.int .i32 (d : Int), .bool ok]) ∧ d < 16 ∧ (ok = true → Dig c d) ∧ w' = w := by
  go_enter Try.func8, Try.ntmps8
  go_wp2
  go_loopg [4] 16 (fun k s4 wx => ∃ i : Nat, s4 = .int .i64 i ∧ (i + k ≤ 16 ∧ 16 ≤ i + k) ∧ wx = w)
  case atStart => exact ⟨0, rfl, by omega, rfl⟩
  case round =>
    obtain ⟨i, rfl, ⟨hi1, hi2⟩, rfl⟩ := hrel
    by_cases hin : i < 16
    · have la := low_at i hin
      have ua := up_at i hin
      have HD : Hid (c = lowB i ∨ c = upB i → Dig c i) := dig_of c i hin
      generalize lowB i = x at la HD
      generalize upB i = y at ua HD
      by_cases h1 : c = x
      · have h1' : ((c : Int) == (x : Int)) = true := by simp [h1]
        have HQ : Hid (Dig c i) := HD.out (.inl h1)
        clear HD h1
        go_wp2
        go_ret2
        exact ⟨i, true, rfl, by omega, fun _ => HQ.out, rfl⟩
      · have h1' : ((c : Int) == (x : Int)) = false := by simp; omega
        by_cases h2 : c = y
        · have h2' : ((c : Int) == (y : Int)) = true := by simp [h2]
          have HQ : Hid (Dig c i) := HD.out (.inr h2)
          clear HD h1 h2
          go_wp2
          go_ret2
          exact ⟨i, true, rfl, by omega, fun _ => HQ.out, rfl⟩
        · have h2' : ((c : Int) == (y : Int)) = false := by simp; omega
          clear HD h1 h2
          go_wp2
          go_roundg (gk - 1)
          case measure => omega
          case rel => exact ⟨i + 1, by go_num, by omega, by first | rfl | trivial⟩
    · go_wp2
      go_ret2
      exact ⟨0, false, rfl, by omega, (fun h => by cases h), rfl⟩
end Go.Proofs.Qxb6605588a
