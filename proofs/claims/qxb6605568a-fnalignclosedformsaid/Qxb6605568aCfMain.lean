/-
  'FnAlignClosedForm' (function 5): the road through ZZalign.
-/
import Derived.Test.Qxb6605568aCf
namespace Go.Proofs.Qxb6605568a
open Go.RowKit
set_option linter.unusedVariables false

set_option maxRecDepth 100000 in
set_option maxHeartbeats 4000000 in
theorem cf_some (x : Addr) (cap0 : Nat) (xs : List Int) (n : Nat) (HN : Hid (xs.length = n)) (hx : n ≤ 1048576) (acc nb : Nat) (hacc : acc < 18446744073709551616) (hnb : nb ≤ 65536) (w : World) (HC : Hid (RowAt .u8 w x xs)) :
    Calls Try.prog 5 #[.slice (some x) n cap0, .int .u64 acc, .int .u64 nb] w fun e w' => e = .returned (.bool true) ∧ Below w.heap.size w w' := by
  have q : ∀ (w : World) (a : Option Addr) (n c n' c' : Nat), (binOp .eql 31 (.slice a n c) (.slice none n' c')).run Try.prog w = .ok (.bool a.isNone) w := fun w a n c n' c' => Lib.run_eql_slice_nil w _ _ a n c n' c' Try.underlying31
  obtain ⟨k, hk⟩ : ∃ k, (nb + 7) / 8 = k := ⟨_, rfl⟩
  obtain ⟨r, hr⟩ : ∃ r, acc / 256 ^ k = r := ⟨_, rfl⟩
  have HK : Hid ((nb + 7) / 8 = k) := hk
  have HR : Hid (acc / 256 ^ k = r) := hr
  have ek : ((nb : Int) + 7) / 8 = (k : Int) := by omega
  have es : ((acc : Int) / 2 ^ (8 * k)) = (r : Int) := by rw [shr_eq, hr]
  have HZ : Hid (8 ≤ k → r = 0) := fun h => by rw [← hr]; exact shr_zero acc k hacc h
  have hk1 : k ≤ 8192 := by omega
  clear hk hr
  go_enter Try.func5, Try.ntmps5
  go_wp2_with (first | (go_at_call 14; go_in) | fail)
  refine (clone_n x n cap0 xs HN hx w HC.out).mono ?_
  rintro e w1 ⟨rfl, rfl⟩
  go_wp2_with fail
  refine (clone_n ⟨w.heap.size, 0, none⟩ n n xs HN hx _ (rowAt_alloc .u8 w xs 5)).mono ?_
  rintro e w1 ⟨rfl, rfl⟩
  go_wp2_with fail
  refine (zz_some w.heap.size n acc nb k r xs _ HN HK HR (heap_alloc2_old w _ _) hx hnb hacc).mono ?_
  rintro e w3 ⟨g, cap, rfl, hgot, hgrow⟩
  have horig : ∀ i, i < n → w3.cell? ⟨w.heap.size + 1, i, none⟩ = some (.int .u8 (xs.getD i 0)) := by
    intro i hi
    rw [hgrow.cell_far _ (by simp) (by simp), World.cell?_alloc_at _ _ _ _ (by simp)]
    exact cellsOf_get .u8 xs i (by rw [HN.out]; exact hi)
  have HB : Hid (Below w.heap.size w w3) :=
    (((Below.refl w.heap.size w).alloc (Nat.le_refl _) _).alloc (by simp) _).grown hgrow (by simp; omega) (by intro j hj; simp at hj; omega)
  have HG : Hid (∀ i, i < n + k → w3.cell? ⟨g, i, none⟩ = some (.int .u8 ((xs ++ bytesAt acc k).getD i 0))) := hgot
  have HO : Hid (∀ i, i < n → w3.cell? ⟨w.heap.size + 1, i, none⟩ = some (.int .u8 (xs.getD i 0))) := horig
  clear hgot hgrow horig
  have hcase : (k < 8 ∧ ((k : Int) == 0) = true) ∨ (k < 8 ∧ ((k : Int) == 0) = false) ∨ (8 ≤ k ∧ r = 0 ∧ ((k : Int) == 0) = false) := by
    by_cases h8 : k < 8
    · by_cases h0 : k = 0
      · left; simp [h0]
      · right; left; simp [h8, h0]
    · right; right; exact ⟨by omega, HZ.out (by omega), by simp; omega⟩
  have HGB : Hid (∀ j, j < k → w3.cell? ⟨g, n + j, none⟩ = some (.int .u8 ((acc / 256 ^ j % 256 : Nat) : Int))) := fun j hj => by
    have := HG.out (n + j) (by omega)
    rwa [show (xs ++ bytesAt acc k).getD (n + j) 0 = ((acc / 256 ^ j % 256 : Nat) : Int) from by
      rw [← bytesAt_get acc k j hj, ← HN.out]; simp [List.getD, List.getElem?_append_right]] at this
  have HGA : Hid (∀ i, i < n → w3.cell? ⟨g, i, none⟩ = some (.int .u8 (xs.getD i 0))) := fun i hi => by
    have := HG.out i (by omega)
    rwa [show (xs ++ bytesAt acc k).getD i 0 = xs.getD i 0 from by
      have := HN.out
      simp [List.getD, List.getElem?_append_left (show i < xs.length by omega)]] at this
  clear HG HR HK HZ HC
  rcases hcase with ⟨h8, h0⟩ | ⟨h8, h0⟩ | ⟨h8, hr0, h0⟩
  rotate_left 2
  subst hr0
  all_goals
    go_wp2
    clear h0 es ek
    go_loopw [14] (fun i wr => ∃ j : Nat, j ≤ n ∧ i = .int .i64 j ∧ ∃ nq, wr = w3.drewN nq) (fun i _ => n - (intOf i).toNat)
    case atStart => exact ⟨0, Nat.zero_le _, rfl, 0, rfl⟩
    case round =>
      obtain ⟨j, hj, rfl, nq, rfl⟩ := hrel
      by_cases hlt : j < n
      · have c1 := HGA.out j hlt
        have c2 := HO.out j hlt
        obtain ⟨xj, hxj⟩ : ∃ xj, xs.getD j 0 = xj := ⟨_, rfl⟩
        rw [hxj] at c1 c2
        clear hxj
        have hl1 : (j : Int) < (n : Int) := by omega
        have hl2 : (j : Int) < (n : Int) + (k : Int) := by omega
        go_wp2
        go_quiet (fail)
        go_wp2
        go_roundw
        case rel => exact ⟨j + 1, by omega, by go_num, _, rfl⟩
        case measure => simp [intOf]; omega
      · go_wp2
        go_loopw [15] (fun i wr => ∃ t : Nat, t ≤ k ∧ i = .int .i64 t ∧ wr = w3.drewN nq) (fun i _ => k - (intOf i).toNat)
        case atStart => exact ⟨0, Nat.zero_le _, rfl, rfl⟩
        case round =>
          obtain ⟨t, ht, rfl, rfl⟩ := hrel
          by_cases hlt2 : t < k
          · have c1 := HGB.out t hlt2
            obtain ⟨b, hb⟩ : ∃ b : Int, ((acc / 256 ^ t % 256 : Nat) : Int) = b := ⟨_, rfl⟩
            rw [hb] at c1
            have hl2 : (n : Int) + (t : Int) < (n : Int) + (k : Int) := by omega
            by_cases ht8 : t < 8
            · have eb : IntKind.u8.wrap ((acc : Int) / 2 ^ (8 * t)) = b := by rw [shr_eq, wrap_u8_nat, hb]
              clear hb
              go_wp2
              go_roundw
              case rel => exact ⟨t + 1, by omega, by go_num, by first | rfl | trivial⟩
              case measure => simp [intOf]; omega
            · first
                | (exfalso; omega)
                | (have hb0 : b = 0 := by rw [← hb, shr_zero acc t hacc (by omega)]; rfl
                   subst hb0
                   clear hb
                   go_wp2
                   go_roundw
                   case rel => exact ⟨t + 1, by omega, by go_num, by first | rfl | trivial⟩
                   case measure => simp [intOf]; omega)
          · go_wp2
            go_ret
            exact ⟨rfl, ⟨HB.out.os, HB.out.tape, HB.out.output, HB.out.size, HB.out.block⟩⟩
end Go.Proofs.Qxb6605568a
