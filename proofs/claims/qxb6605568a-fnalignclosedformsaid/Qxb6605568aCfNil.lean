/-
  'FnAlignClosedForm' (function 5): the road of a nil slice.
-/
import Derived.Test.Qxb6605568aCf
namespace Go.Proofs.Qxb6605568a
open Go.RowKit
set_option linter.unusedVariables false

set_option maxRecDepth 100000 in
set_option maxHeartbeats 4000000 in
theorem cf_nil (acc nb : Nat) (hacc : acc < 18446744073709551616) (hnb : nb ≤ 65536) (w : World) :
    Calls Try.prog 5 #[.slice none 0 0, .int .u64 acc, .int .u64 nb] w fun e w' => e = .returned (.bool true) ∧ Below w.heap.size w w' := by
  have q : ∀ (w : World) (a : Option Addr) (n c n' c' : Nat), (binOp .eql 31 (.slice a n c) (.slice none n' c')).run Try.prog w = .ok (.bool a.isNone) w := fun w a n c n' c' => Lib.run_eql_slice_nil w _ _ a n c n' c' Try.underlying31
  obtain ⟨k, hk⟩ : ∃ k, (nb + 7) / 8 = k := ⟨_, rfl⟩
  obtain ⟨r, hr⟩ : ∃ r, acc / 256 ^ k = r := ⟨_, rfl⟩
  have HK : Hid ((nb + 7) / 8 = k) := hk
  have HR : Hid (acc / 256 ^ k = r) := hr
  have ek : ((nb : Int) + 7) / 8 = (k : Int) := by omega
  have es : ((acc : Int) / 2 ^ (8 * k)) = (r : Int) := by rw [shr_eq, hr]
  have HZ : Hid (8 ≤ k → r = 0) := fun h => by rw [← hr]; exact shr_zero acc k hacc h
  have hk1 : k ≤ 8192 := by omega
  clear hk hr
  go_enter Try.func5, Try.ntmps5
  go_wp2_with (first | (go_at_call 14; go_in) | fail)
  refine (clone_nil _).mono ?_
  rintro e w1 ⟨rfl, rfl⟩
  go_wp2_with fail
  refine (clone_nil _).mono ?_
  rintro e w1 ⟨rfl, rfl⟩
  go_wp2_with fail
  refine (zz_nil 0 acc nb k r _ HK HR hnb hacc).mono ?_
  rintro e w3 ⟨v, rfl, hv, hgrow⟩
  have HB : Hid (Below w1.heap.size w1 w3) := (Below.refl w1.heap.size w1).grown hgrow (Nat.le_refl _) (by intro j hj; simp at hj)
  have hcase : (k = 0 ∧ v = .slice none 0 0) ∨ (∃ g cap, v = .slice (some ⟨g, 0, none⟩) k cap ∧ Hid (∀ i, i < k → w3.cell? ⟨g, i, none⟩ = some (.int .u8 ((acc / 256 ^ i % 256 : Nat) : Int))) ∧ k < 8 ∧ ((k : Int) == 0) = false) ∨
      (∃ g cap, v = .slice (some ⟨g, 0, none⟩) k cap ∧ Hid (∀ i, i < k → w3.cell? ⟨g, i, none⟩ = some (.int .u8 ((acc / 256 ^ i % 256 : Nat) : Int))) ∧ 8 ≤ k ∧ r = 0 ∧ ((k : Int) == 0) = false) := by
    rcases hv with hv | ⟨g, cap, hp, hv, hc⟩
    · exact .inl hv
    · have hc' : ∀ i, i < k → w3.cell? ⟨g, i, none⟩ = some (.int .u8 ((acc / 256 ^ i % 256 : Nat) : Int)) := fun i hi => by rw [hc i hi, bytesAt_get acc k i hi]
      by_cases h8 : k < 8
      · exact .inr (.inl ⟨g, cap, hv, hc', h8, by simp; omega⟩)
      · exact .inr (.inr ⟨g, cap, hv, hc', by omega, HZ.out (by omega), by simp; omega⟩)
  clear hv HR HK HZ hgrow
  rcases hcase with ⟨hk0, rfl⟩ | ⟨g, cap, rfl, HG, h8, h0⟩ | ⟨g, cap, rfl, HG, h8, rfl, h0⟩
  · have h0 : ((k : Int) == 0) = true := by simp [hk0]
    have hk2 : k ≤ 0 := by omega
    clear hk0
    go_wp2
    clear h0 es ek
    go_loopw [14] (fun i wr => i = .int .i64 0 ∧ wr = w3) (fun i _ => 0)
    case atStart => exact ⟨rfl, rfl⟩
    case round =>
      obtain ⟨rfl, rfl⟩ := hrel
      go_wp2
      go_loopw [15] (fun i wx => i = .int .i64 0 ∧ wx = wr) (fun i _ => 0)
      case atStart => exact ⟨rfl, rfl⟩
      case round =>
        obtain ⟨rfl, rfl⟩ := hrel
        go_wp2
        go_ret
        exact ⟨rfl, HB.out⟩
  all_goals
    go_wp2
    clear h0 es ek
    go_loopw [14] (fun i wr => i = .int .i64 0 ∧ wr = w3) (fun i _ => 0)
    case atStart => exact ⟨rfl, rfl⟩
    case round =>
      obtain ⟨rfl, rfl⟩ := hrel
      go_wp2
      go_loopw [15] (fun i wx => ∃ t : Nat, t ≤ k ∧ i = .int .i64 t ∧ wx = wr) (fun i _ => k - (intOf i).toNat)
      case atStart => exact ⟨0, Nat.zero_le _, rfl, rfl⟩
      case round =>
        rename_i w5 _
        obtain ⟨t, ht, rfl, rfl⟩ := hrel
        by_cases hlt2 : t < k
        · have c1 := HG.out t hlt2
          obtain ⟨b, hb⟩ : ∃ b : Int, ((acc / 256 ^ t % 256 : Nat) : Int) = b := ⟨_, rfl⟩
          rw [hb] at c1
          have hl2 : (t : Int) < (k : Int) := by omega
          by_cases ht8 : t < 8
          · have eb : IntKind.u8.wrap ((acc : Int) / 2 ^ (8 * t)) = b := by rw [shr_eq, wrap_u8_nat, hb]
            clear hb
            go_wp2
            go_roundw
            case rel => exact ⟨t + 1, by omega, by go_num, by first | rfl | trivial⟩
            case measure => simp [intOf]; omega
          · first
              | (exfalso; omega)
              | (have hb0 : b = 0 := by rw [← hb, shr_zero acc t hacc (by omega)]; rfl
                 subst hb0
                 clear hb
                 go_wp2
                 go_roundw
                 case rel => exact ⟨t + 1, by omega, by go_num, by first | rfl | trivial⟩
                 case measure => simp [intOf]; omega)
        · go_wp2
          go_ret
          exact ⟨rfl, HB.out⟩
end Go.Proofs.Qxb6605568a
