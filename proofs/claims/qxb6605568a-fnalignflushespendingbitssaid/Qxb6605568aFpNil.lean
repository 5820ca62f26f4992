/-
  'FnAlignFlushesPendingBits' (function 6): the road of a nil slice.
-/
import Derived.Test.Qxb6605568aFp
namespace Go.Proofs.Qxb6605568a
open Go.RowKit
set_option linter.unusedVariables false

set_option maxRecDepth 100000 in
set_option maxHeartbeats 4000000 in
theorem fp_nil (acc nb : Nat) (hacc : acc < 18446744073709551616) (hnb : nb < 32) (hab : ((acc : Int) / 2 ^ nb != 0) = false) (w : World) :
    Calls Try.prog 6 #[.slice none 0 0, .int .u64 acc, .int .u64 nb] w fun e w' => e = .returned (.bool true) ∧ Below w.heap.size w w' := by
  obtain ⟨k, hk⟩ : ∃ k, (nb + 7) / 8 = k := ⟨_, rfl⟩
  have HK : Hid ((nb + 7) / 8 = k) := hk
  have hk1 : nb ≤ 8 * k := by omega
  have hk2 : 8 * k < nb + 8 := by omega
  have HR : Hid (acc / 256 ^ k = 0) := small_of acc nb k hab hk1
  clear hk
  go_enter Try.func6, Try.ntmps6
  go_wp2_with (first | (go_at_call 17; go_in) | fail)
  refine (clone_nil _).mono ?_
  rintro e w1 ⟨rfl, rfl⟩
  go_wp2_with fail
  refine (clone_nil _).mono ?_
  rintro e w1 ⟨rfl, rfl⟩
  go_wp2_with fail
  refine (zz_nil 0 acc nb k 0 _ HK HR (by omega) hacc).mono ?_
  rintro e w3 ⟨v, rfl, hv, hgrow⟩
  have HB : Hid (Below w1.heap.size w1 w3) := (Below.refl w1.heap.size w1).grown hgrow (Nat.le_refl _) (by intro j hj; simp at hj)
  have hcase : (k = 0 ∧ v = .slice none 0 0) ∨ (∃ g cap, v = .slice (some ⟨g, 0, none⟩) k cap ∧ Hid (∀ i, i < k → w3.cell? ⟨g, i, none⟩ = some (.int .u8 ((acc / 256 ^ i % 256 : Nat) : Int)))) := by
    rcases hv with hv | ⟨g, cap, hp, hv, hc⟩
    · exact .inl hv
    · exact .inr ⟨g, cap, hv, fun i hi => by rw [hc i hi, bytesAt_get acc k i hi]⟩
  clear hv HK hgrow
  rcases hcase with ⟨hk0, rfl⟩ | ⟨g, cap, rfl, HG⟩
  · have hk3 : k ≤ 0 := by omega
    have ha : acc = 0 := by have := HR.out; rw [hk0] at this; simpa using this
    have ha' : ((0 : Int) == (acc : Int)) = true := by simp [ha]
    clear hk0 ha
    go_wp2
    go_loopw [13] (fun i wr => i = .int .i64 0 ∧ wr = w3) (fun i _ => 0)
    case atStart => exact ⟨rfl, rfl⟩
    case round =>
      obtain ⟨rfl, rfl⟩ := hrel
      go_wp2
      go_loopw [14, 15] (fun v i wx => v = .int .u64 0 ∧ i = .int .i64 (-1) ∧ wx = wr) (fun _ i _ => 0)
      case atStart => exact ⟨rfl, rfl, rfl⟩
      case round =>
        obtain ⟨rfl, rfl, rfl⟩ := hrel
        go_wp2
        go_ret
        exact ⟨rfl, HB.out⟩
  · go_wp2
    go_loopw [13] (fun i wr => i = .int .i64 0 ∧ wr = w3) (fun i _ => 0)
    case atStart => exact ⟨rfl, rfl⟩
    case round =>
      obtain ⟨rfl, rfl⟩ := hrel
      go_wp2
      go_loopg [14, 15] k (fun t v i wx => ∃ z : Nat, z < 18446744073709551616 ∧ i = .int .i64 ((t : Int) - 1) ∧ v = .int .u64 (z : Int) ∧ Hid (z = acc / 256 ^ t) ∧ t ≤ k ∧ wx = wr)
      case atStart => exact ⟨0, by omega, by go_num, rfl, HR.out.symm, Nat.le_refl _, rfl⟩
      case round =>
        obtain ⟨z, hz, rfl, rfl, HZ, ht, rfl⟩ := hrel
        by_cases hlt2 : 1 ≤ gk
        · obtain ⟨u, rfl⟩ : ∃ u, gk = u + 1 := ⟨gk - 1, by omega⟩
          have c1 := HG.out u (by omega)
          obtain ⟨b, hb⟩ : ∃ b : Nat, acc / 256 ^ u % 256 = b := ⟨_, rfl⟩
          rw [hb] at c1
          have hb1 : b < 256 := by omega
          have hl2 : (u : Int) < (k : Int) := by omega
          go_wp2
          go_roundg u
          case measure => omega
          case rel =>
            have ez : z * 256 + b = acc / 256 ^ u := by rw [HZ.out, ← hb]; exact back_byte acc u
            have hle : acc / 256 ^ u ≤ acc := Nat.div_le_self _ _
            exact ⟨z * 256 + b, by omega, rfl, by rw [or_step z b (by omega) hb1], ez, by omega, by first | rfl | trivial⟩
        · have h0 : gk = 0 := by omega
          subst h0
          have hza : z = acc := by simpa using HZ.out
          subst hza
          go_wp2
          go_ret
          exact ⟨by simp, HB.out⟩
end Go.Proofs.Qxb6605568a
