/-
  'FnAlignFlushesPendingBits' (function 6): its walks.
-/
import Derived.Test.Qxb6605568aCf
namespace Go.Proofs.Qxb6605568a
open Go.RowKit
set_option linter.unusedVariables false

theorem fp_long (a0 : Option Addr) (len0 cap0 : Nat) (a1 a2 : Int) (w : World) (h : 1048576 < len0) (hm : len0 ≤ maxLen) :
    Calls Try.prog 6 #[.slice a0 len0 cap0, .int .u64 a1, .int .u64 a2] w fun e w' => e = .returned (.bool true) ∧ w' = w := by
  unfold maxLen at hm
  go_enter Try.func6, Try.ntmps6
  go_wp2
  go_ret
  exact ⟨rfl, rfl⟩

theorem fp_many (a0 : Option Addr) (len0 cap0 : Nat) (a1 a2 : Int) (w : World) (h : len0 ≤ 1048576) (hm : 32 ≤ a2) :
    Calls Try.prog 6 #[.slice a0 len0 cap0, .int .u64 a1, .int .u64 a2] w fun e w' => e = .returned (.bool true) ∧ w' = w := by
  go_enter Try.func6, Try.ntmps6
  go_wp2
  go_ret
  exact ⟨rfl, rfl⟩

theorem fp_above (a0 : Option Addr) (len0 cap0 : Nat) (acc nb : Nat) (w : World) (h : len0 ≤ 1048576) (hnb : nb < 32) (hacc : acc < 18446744073709551616) (hm : ((acc : Int) / 2 ^ nb != 0) = true) :
    Calls Try.prog 6 #[.slice a0 len0 cap0, .int .u64 acc, .int .u64 nb] w fun e w' => e = .returned (.bool true) ∧ w' = w := by
  go_enter Try.func6, Try.ntmps6
  go_wp2
  go_ret
  exact ⟨rfl, rfl⟩

theorem or_step (z b : Nat) (h : z * 256 + b < 18446744073709551616) (hb : b < 256) : bits .or .u64 (IntKind.u64.wrap ((z : Int) * 256)) (b : Int) = ((z * 256 + b : Nat) : Int) := by
  have e : IntKind.u64.wrap ((z : Int) * 256) = ((z * 256 : Nat) : Int) := by rw [IntKind.wrap_u64]; omega
  rw [e, bits_or_u64_nat (z * 256) b (Nat.lt_of_le_of_lt (Nat.le_add_right _ _) h) (Nat.lt_trans hb (by decide))]
  have h1 := Nat.shiftLeft_add_eq_or_of_lt (i := 8) (b := b) (by omega) z
  simp only [Nat.shiftLeft_eq, Nat.reducePow] at h1
  rw [h1]
theorem back_byte (acc u : Nat) : acc / 256 ^ (u + 1) * 256 + acc / 256 ^ u % 256 = acc / 256 ^ u := by
  rw [Nat.pow_succ, ← Nat.div_div_eq_div_mul]
  omega
theorem small_of (acc nb k : Nat) (h : ((acc : Int) / 2 ^ nb != 0) = false) (hk : nb ≤ 8 * k) : acc / 256 ^ k = 0 := by
  have h1 : acc / 2 ^ nb = 0 := by
    have h2 : ((acc / 2 ^ nb : Nat) : Int) = 0 := by simpa using h
    omega
  have h3 : acc < 2 ^ nb := by
    rcases Nat.div_eq_zero_iff.1 h1 with h4 | h4
    · exact absurd h4 (Nat.ne_of_gt (Nat.two_pow_pos nb))
    · exact h4
  apply Nat.div_eq_of_lt
  have h5 : 2 ^ nb ≤ 2 ^ (8 * k) := Nat.pow_le_pow_right (by omega) hk
  have h6 : (256 : Nat) ^ k = 2 ^ (8 * k) := by rw [Nat.pow_mul]
  omega

set_option maxRecDepth 100000 in
set_option maxHeartbeats 4000000 in
theorem fp_some (x : Addr) (cap0 : Nat) (xs : List Int) (n : Nat) (HN : Hid (xs.length = n)) (hx : n ≤ 1048576) (acc nb : Nat) (hacc : acc < 18446744073709551616) (hnb : nb < 32) (hab : ((acc : Int) / 2 ^ nb != 0) = false) (w : World) (HC : Hid (RowAt .u8 w x xs)) :
    Calls Try.prog 6 #[.slice (some x) n cap0, .int .u64 acc, .int .u64 nb] w fun e w' => e = .returned (.bool true) ∧ Below w.heap.size w w' := by
  obtain ⟨k, hk⟩ : ∃ k, (nb + 7) / 8 = k := ⟨_, rfl⟩
  have HK : Hid ((nb + 7) / 8 = k) := hk
  have hk1 : nb ≤ 8 * k := by omega
  have hk2 : 8 * k < nb + 8 := by omega
  have HR : Hid (acc / 256 ^ k = 0) := small_of acc nb k hab hk1
  clear hk
  go_enter Try.func6, Try.ntmps6
  go_wp2_with (first | (go_at_call 17; go_in) | fail)
  refine (clone_n x n cap0 xs HN hx w HC.out).mono ?_
  rintro e w1 ⟨rfl, rfl⟩
  go_wp2_with fail
  refine (clone_n ⟨w.heap.size, 0, none⟩ n n xs HN hx _ (rowAt_alloc .u8 w xs 5)).mono ?_
  rintro e w1 ⟨rfl, rfl⟩
  go_wp2_with fail
  refine (zz_some w.heap.size n acc nb k 0 xs _ HN HK HR (heap_alloc2_old w _ _) hx (by omega) hacc).mono ?_
  rintro e w3 ⟨g, cap, rfl, hgot, hgrow⟩
  have horig : ∀ i, i < n → w3.cell? ⟨w.heap.size + 1, i, none⟩ = some (.int .u8 (xs.getD i 0)) := by
    intro i hi
    rw [hgrow.cell_far _ (by simp) (by simp), World.cell?_alloc_at _ _ _ _ (by simp)]
    exact cellsOf_get .u8 xs i (by rw [HN.out]; exact hi)
  have HB : Hid (Below w.heap.size w w3) :=
    (((Below.refl w.heap.size w).alloc (Nat.le_refl _) _).alloc (by simp) _).grown hgrow (by simp; omega) (by intro j hj; simp at hj; omega)
  have HG : Hid (∀ i, i < n + k → w3.cell? ⟨g, i, none⟩ = some (.int .u8 ((xs ++ bytesAt acc k).getD i 0))) := hgot
  have HO : Hid (∀ i, i < n → w3.cell? ⟨w.heap.size + 1, i, none⟩ = some (.int .u8 (xs.getD i 0))) := horig
  clear hgot hgrow horig
  have HGB : Hid (∀ j, j < k → w3.cell? ⟨g, n + j, none⟩ = some (.int .u8 ((acc / 256 ^ j % 256 : Nat) : Int))) := fun j hj => by
    have := HG.out (n + j) (by omega)
    rwa [show (xs ++ bytesAt acc k).getD (n + j) 0 = ((acc / 256 ^ j % 256 : Nat) : Int) from by
      rw [← bytesAt_get acc k j hj, ← HN.out]; simp [List.getD, List.getElem?_append_right]] at this
  have HGA : Hid (∀ i, i < n → w3.cell? ⟨g, i, none⟩ = some (.int .u8 (xs.getD i 0))) := fun i hi => by
    have := HG.out i (by omega)
    rwa [show (xs ++ bytesAt acc k).getD i 0 = xs.getD i 0 from by
      have := HN.out
      simp [List.getD, List.getElem?_append_left (show i < xs.length by omega)]] at this
  clear HG HK HC
  go_wp2
  go_loopw [13] (fun i wr => ∃ j : Nat, j ≤ n ∧ i = .int .i64 j ∧ ∃ nq, wr = w3.drewN nq) (fun i _ => n - (intOf i).toNat)
  case atStart => exact ⟨0, Nat.zero_le _, rfl, 0, rfl⟩
  case round =>
    obtain ⟨j, hj, rfl, nq, rfl⟩ := hrel
    by_cases hlt : j < n
    · have c1 := HGA.out j hlt
      have c2 := HO.out j hlt
      obtain ⟨xj, hxj⟩ : ∃ xj, xs.getD j 0 = xj := ⟨_, rfl⟩
      rw [hxj] at c1 c2
      clear hxj
      have hl1 : (j : Int) < (n : Int) := by omega
      have hl2 : (j : Int) < (n : Int) + (k : Int) := by omega
      go_wp2
      go_quiet (fail)
      go_wp2
      go_roundw
      case rel => exact ⟨j + 1, by omega, by go_num, _, rfl⟩
      case measure => simp [intOf]; omega
    · go_wp2
      go_loopg [14, 15] k (fun t v i wr => ∃ z : Nat, z < 18446744073709551616 ∧ i = .int .i64 ((t : Int) - 1) ∧ v = .int .u64 (z : Int) ∧ Hid (z = acc / 256 ^ t) ∧ t ≤ k ∧ wr = w3.drewN nq)
      case atStart => exact ⟨0, by omega, by go_num, rfl, HR.out.symm, Nat.le_refl _, rfl⟩
      case round =>
        obtain ⟨z, hz, rfl, rfl, HZ, ht, rfl⟩ := hrel
        by_cases hlt2 : 1 ≤ gk
        · obtain ⟨u, rfl⟩ : ∃ u, gk = u + 1 := ⟨gk - 1, by omega⟩
          have c1 := HGB.out u (by omega)
          obtain ⟨b, hb⟩ : ∃ b : Nat, acc / 256 ^ u % 256 = b := ⟨_, rfl⟩
          rw [hb] at c1
          have hb1 : b < 256 := by omega
          have hl2 : (n : Int) + (u : Int) < (n : Int) + (k : Int) := by omega
          go_wp2
          go_roundg u
          case measure => omega
          case rel =>
            have ez : z * 256 + b = acc / 256 ^ u := by rw [HZ.out, ← hb]; exact back_byte acc u
            have hle : acc / 256 ^ u ≤ acc := Nat.div_le_self _ _
            exact ⟨z * 256 + b, by omega, rfl, by rw [or_step z b (by omega) hb1], ez, by omega, by first | rfl | trivial⟩
        · have h0 : gk = 0 := by omega
          subst h0
          have hza : z = acc := by simpa using HZ.out
          subst hza
          go_wp2
          go_ret
          exact ⟨by simp, ⟨HB.out.os, HB.out.tape, HB.out.output, HB.out.size, HB.out.block⟩⟩
end Go.Proofs.Qxb6605568a
