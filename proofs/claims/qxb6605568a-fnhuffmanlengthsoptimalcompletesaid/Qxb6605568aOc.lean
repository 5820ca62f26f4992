/-
  FnHuffmanLengthsOptimalComplete (function 3): its walks.
-/
import Derived.Test.Qxb6605568aSf
import Derived.Test.Qxb6605568aHcost
namespace Go.Proofs.Qxb6605568a
open Go.RowKit
set_option linter.unusedVariables false

theorem oc_long1 (a0 : Option Addr) (len0 cap0 : Nat) (w : World) (h : 1048576 < len0) (hm : len0 ≤ maxLen) :
    Calls Try.prog 3 #[.slice a0 len0 cap0] w fun e w' => e = .returned (.bool true) ∧ w' = w := by
  unfold maxLen at hm
  go_enter Try.func3, Try.ntmps3
  go_wp2
  go_ret
  exact ⟨rfl, rfl⟩
theorem oc_long2 (a0 : Option Addr) (len0 cap0 : Nat) (w : World) (h : 65536 < len0) (hm : len0 ≤ 1048576) :
    Calls Try.prog 3 #[.slice a0 len0 cap0] w fun e w' => e = .returned (.bool true) ∧ w' = w := by
  go_enter Try.func3, Try.ntmps3
  go_wp2
  go_ret
  exact ⟨rfl, rfl⟩
theorem oc_short (a0 : Option Addr) (len0 cap0 : Nat) (w : World) (h : len0 < 2) :
    Calls Try.prog 3 #[.slice a0 len0 cap0] w fun e w' => e = .returned (.bool true) ∧ w' = w := by
  have h1 : (len0 : Int) < 2 := by omega
  go_enter Try.func3, Try.ntmps3
  go_wp2
  go_ret
  exact ⟨rfl, rfl⟩

theorem chain_le (ws : List Nat) (n : Nat) (h : ∀ j, 1 ≤ j → j < n → ws.getD (j - 1) 0 ≤ ws.getD j 0) : ∀ d i, i + d < n → ws.getD i 0 ≤ ws.getD (i + d) 0
  | 0, i, _ => Nat.le_refl _
  | d + 1, i, hd => by
    have a := chain_le ws n h d i (by omega)
    have b := h (i + (d + 1)) (by omega) hd
    rw [show i + (d + 1) - 1 = i + d from by omega] at b
    omega
theorem chain_sorted (ws : List Nat) (n : Nat) (hl : ws.length = n) (h : ∀ j, 1 ≤ j → j < n → ws.getD (j - 1) 0 ≤ ws.getD j 0) : ws.Pairwise (· ≤ ·) := by
  rw [List.pairwise_iff_getElem]
  intro i j hi hj hij
  have := chain_le ws n h (j - i) i (by omega)
  rw [show i + (j - i) = j from by omega] at this
  simpa [List.getD, hi, hj] using this

set_option maxRecDepth 100000 in
set_option maxHeartbeats 4000000 in
theorem oc_main (b off cap0 n : Nat) (ws : List Nat) (w : World) (HN : Hid (ws.length = n)) (hn : 2 ≤ n) (hn' : n ≤ 65536) (HW : Hid (∀ x ∈ ws, x ≤ 4294967295)) (hb : b < w.heap.size)
    (HC : Hid (∀ i, i < n → w.cell? ⟨b, off + i, none⟩ = some (.int .u32 ((ws.getD i 0 : Nat) : Int)))) :
    Calls Try.prog 3 #[.slice (some ⟨b, off, none⟩) n cap0] w fun e w' => e = .returned (.bool true) ∧ Below w.heap.size w w' := by
  have h1 : decide ((n : Int) < 2) = false := by simp; omega
  have h2 : decide (n < 2) = false := by simp; omega
  go_enter Try.func3, Try.ntmps3
  go_wp2
  go_loopg [4, 5] n (fun g s4 s5 wx => ∃ i S : Nat, s4 = .int .u64 S ∧ s5 = .int .i64 i ∧ (i + g ≤ n ∧ n ≤ i + g) ∧ Hid (S = (ws.take i).sum ∧ ∀ j, 1 ≤ j → j < i → ws.getD (j - 1) 0 ≤ ws.getD j 0) ∧ ∃ q, wx = w.drewN q)
  case atStart => exact ⟨0, 0, rfl, rfl, by omega, ⟨rfl, fun j _ h => by omega⟩, 0, rfl⟩
  case round =>
    obtain ⟨i, S, rfl, rfl, ⟨hi1, hi2⟩, HS, q, rfl⟩ := hrel
    have hSb : S ≤ i * 4294967295 := by rw [HS.out.1]; exact take_sum_le ws _ HW.out i
    by_cases hin : i < n
    · obtain ⟨x, hx⟩ : ∃ x, x = ws.getD i 0 := ⟨_, rfl⟩
      have cx := HC.out i hin
      rw [← hx] at cx
      have hxb : x ≤ 4294967295 := by rw [hx]; exact HW.out _ (by have := HN.out; simp [List.getD, show i < ws.length by omega])
      have i1 : (i : Int) < (n : Int) := by omega
      have hS2 : S + x < 18446744073709551616 := by omega
      by_cases hi0 : 1 ≤ i
      · obtain ⟨y, hy⟩ : ∃ y, y = ws.getD (i - 1) 0 := ⟨_, rfl⟩
        have cy := HC.out (i - 1) (by omega)
        rw [← hy] at cy
        have hd1 : (0 : Int) < (i : Int) := by omega
        have hd4 : 0 < i := by omega
        have eo : off + i - 1 = off + (i - 1) := by omega
        by_cases hyx : x < y
        · have hc1 : (x : Int) < (y : Int) := by omega
          clear hy hx HS
          go_wp2
          go_big_quiet (fail)
          go_wp2
          go_ret
          exact ⟨rfl, ⟨rfl, rfl, rfl, Nat.le_refl _, fun _ _ => rfl⟩⟩
        · have hc1 : decide ((x : Int) < (y : Int)) = false := by simp; omega
          have hc2 : decide (x < y) = false := by simp; omega
          have HS2 : Hid (S + x = (ws.take (i + 1)).sum ∧ ∀ j, 1 ≤ j → j < i + 1 → ws.getD (j - 1) 0 ≤ ws.getD j 0) := by
            refine ⟨by rw [take_sum ws i (by rw [HN.out]; exact hin), ← hx, HS.out.1], ?_⟩
            intro j hj1 hj2
            by_cases hji : j = i
            · subst hji; rw [← hx, ← hy]; omega
            · exact HS.out.2 j hj1 (by omega)
          clear hy hx HS
          go_wp2
          go_big_quiet (fail)
          go_wp2
          go_roundg (gk - 1)
          case measure => omega
          case rel => exact ⟨i + 1, S + x, by go_num, by go_num, by omega, HS2, _, rfl⟩
      · have hd1 : decide ((0 : Int) < (i : Int)) = false := by simp; omega
        have hd2 : decide (0 < i) = false := by simp; omega
        have HS2 : Hid (S + x = (ws.take (i + 1)).sum ∧ ∀ j, 1 ≤ j → j < i + 1 → ws.getD (j - 1) 0 ≤ ws.getD j 0) :=
          ⟨by rw [take_sum ws i (by rw [HN.out]; exact hin), ← hx, HS.out.1], fun j hj1 hj2 => by omega⟩
        clear hx HS
        go_wp2
        go_big_quiet (fail)
        go_wp2
        go_roundg (gk - 1)
        case measure => omega
        case rel => exact ⟨i + 1, S + x, by go_num, by go_num, by omega, HS2, _, rfl⟩
    · have hS : S = ws.sum := by rw [HS.out.1, List.take_of_length_le (by rw [HN.out]; omega)]
      have HS3 : Hid (S = ws.sum) := hS
      have HSO : Hid (ws.Pairwise (· ≤ ·)) := chain_sorted ws n HN.out (fun j h1 h2 => HS.out.2 j h1 (by omega))
      clear hS HS
      have HCw : Hid (RowsAt .u32 (w.drewN q) ⟨b, off, none⟩ (nats ws)) := by
        intro j hj
        rw [nats_length, HN.out] at hj
        rw [Addr.add_lit, nats_getD]
        exact HC.out j hj
      have HBw : Hid (Below w.heap.size w (w.drewN q)) := ⟨rfl, rfl, rfl, Nat.le_refl _, fun _ _ => rfl⟩
      by_cases hA : 4294967295 < S
      · have hA' : (4294967295 : Int) < (S : Int) := by omega
        go_wp2
        go_ret
        exact ⟨rfl, HBw.out⟩
      · have hA1 : decide ((4294967295 : Int) < (S : Int)) = false := by simp; omega
        have hA2 : decide (4294967295 < S) = false := by simp; omega
        have HNn : Hid ((nats ws).length = n) := by show _ = _; rw [nats_length]; exact HN.out
        generalize w.drewN q = wq at HCw HBw ⊢
        clear HC hSb
        go_wp2_with fail
        clear hA1 hA2 h1 h2
        refine (clone32_some ⟨b, off, none⟩ cap0 (nats ws) n HNn (by omega) (by omega) wq HCw.out).mono ?_
        rintro e w1 ⟨rfl, rfl⟩
        go_wp2_with fail
        refine (clone32_some ⟨wq.heap.size, 0, none⟩ n (nats ws) n HNn (by omega) (by omega) _ (rowsAt_alloc .u32 wq (nats ws) 25)).mono ?_
        rintro e w1 ⟨rfl, rfl⟩
        go_wp2_with fail
        obtain ⟨H, hH⟩ : ∃ H, H = wq.heap.size := ⟨_, rfl⟩
        obtain ⟨W0, hW0⟩ : ∃ W0, W0 = (wq.alloc (.cells (cellsOf .u32 (nats ws)) 25)).alloc (.cells (cellsOf .u32 (nats ws)) 25) := ⟨_, rfl⟩
        have g0 : W0.heap[H]? = some (.cells (cellsOf .u32 (nats ws)) 25 (0, 0)) := by
          rw [hW0, hH, heap_alloc2_old]
        have g1 : W0.heap[H + 1]? = some (.cells (cellsOf .u32 (nats ws)) 25 (0, 0)) := by
          rw [hW0, hH, heap_alloc2_new]
        have HB0 : Hid (Below w.heap.size w W0) := by
          show Below _ _ _
          have := HBw.out.size
          rw [hW0]
          exact (HBw.out.alloc (by omega) _).alloc (by simp; omega) _
        have hHw : w.heap.size ≤ H := by rw [hH]; exact HBw.out.size
        rw [← hW0, ← hH]
        have HR1 : Hid (Row .u32 25 (H + 1) W0 ws W0) := Row.start g1
        have HG0 : Hid (W0.heap[H]? = some (.cells (cellsOf .u32 (nats ws)) 25 (0, 0))) := g0
        have hsum : ws.sum < 4294967296 := by rw [← HS3.out]; omega
        clear hW0 hH HCw HBw HNn g0 g1
        refine (zzhl_any (H + 1) n n ws W0 HN hn hn' hsum HR1).mono ?_
        rintro e w4 ⟨rfl, hR4⟩
        have hhl : (Huff.hl ws).length = n := by rw [Huff.hl_length ws (by rw [HN.out]; exact hn)]; exact HN.out
        have g4 : w4.heap[H]? = some (.cells (cellsOf .u32 (nats ws)) 25 (0, 0)) := (hR4.other H (by omega)).trans HG0.out
        have HB4 : Hid (Below w.heap.size w w4) := by
          have h0 := HB0.out
          exact ⟨hR4.os.trans h0.os, hR4.tape.trans h0.tape, hR4.output.trans h0.output, by rw [hR4.size]; exact h0.size, fun j hj => (hR4.other j (by omega)).trans (h0.block j hj)⟩
        have hsz4 : H + 1 < w4.heap.size := (Array.getElem?_eq_some_iff.1 hR4.here).1
        have HC4 : Hid (∀ j, j < n → w4.cell? ⟨H + 1, j, none⟩ = some (.int .u32 (((Huff.hl ws).getD j 0 : Nat) : Int))) := fun j hj => hR4.cell j (by rw [hhl]; exact hj)
        have HA4 : Hid (∀ j, j < n → w4.cell? ⟨H, j, none⟩ = some (.int .u32 ((ws.getD j 0 : Nat) : Int))) := fun j hj => by
          rw [cell_of_row w4 H j _ 25 (0, 0) g4, cellsOf_get .u32 (nats ws) j (by rw [nats_length, HN.out]; exact hj), nats_getD]
        have HF : Hid (Huff.Full n (fun d => (Huff.depths 0 (Huff.parents ws)).count d) (Huff.hl ws)) := by
          have := Huff.hl_full ws (by rw [HN.out]; exact hn)
          rw [HN.out] at this
          exact this
        have HHL : Hid ((Huff.hl ws).length = n) := hhl
        have HCC : Hid (∀ x ∈ Huff.hl ws, x ≤ 65536) := fun x hx => by have := (HF.out.one x hx).2; omega
        have hcost : Huff.wcost ws (Huff.hl ws) = Huff.mc (n - 1) ws := by
          have := Huff.cost_hl ws (by rw [HN.out]; exact hn) HSO.out
          rw [HN.out] at this
          exact this
        obtain ⟨Z, hZ⟩ : ∃ Z, Z = Huff.mc (n - 1) ws := ⟨_, rfl⟩
        rw [← hZ] at hcost
        have HZ : Hid (Z = Huff.mc (n - 1) ws ∧ Huff.wcost ws (Huff.hl ws) = Z) := ⟨hZ, hcost⟩
        clear hcost hZ g4 hhl hR4 HR1 HG0 HB0 HS3 HW
        go_wp2_with fail
        refine (full_any (H + 1) n n (Huff.hl ws) _ w4 HHL hn hn' HF HC4 hsz4).mono ?_
        rintro e w5 ⟨rfl, hb5⟩
        have HB5 : Hid (Below w.heap.size w w5) := HB4.out.trans (hb5.mono HB4.out.size)
        have HC5 : Hid (∀ j, j < n → w5.cell? ⟨H + 1, j, none⟩ = some (.int .u32 (((Huff.hl ws).getD j 0 : Nat) : Int))) := fun j hj => by
          rw [hb5.cell (p := ⟨H + 1, j, none⟩) hsz4]; exact HC4.out j hj
        have HA5 : Hid (∀ j, j < n → w5.cell? ⟨H, j, none⟩ = some (.int .u32 ((ws.getD j 0 : Nat) : Int))) := fun j hj => by
          rw [hb5.cell (p := ⟨H, j, none⟩) (by show H < w4.heap.size; omega)]; exact HA4.out j hj
        have hsz5 : H + 1 < w5.heap.size := Nat.lt_of_lt_of_le hsz4 hb5.size
        clear hb5 HC4 HA4 HB4 hsz4 HF
        go_wp2_with fail
        refine (wcost_any H (H + 1) n n n ws (Huff.hl ws) w5 HN hn' hsum HCC HHL HA5 HC5).mono ?_
        rw [HZ.out.2]
        rintro e w6 ⟨rfl, q6, rfl⟩
        go_wp2_with fail
        refine (hcost_any H n n ws (w5.drewN q6) HN hn hn' hsum (by show H < w5.heap.size; omega) HA5).mono ?_
        rw [← HZ.out.1]
        rintro e w7 ⟨rfl, hb7⟩
        have HB7 : Hid (Below w.heap.size w w7) := by
          have h5 : Below w.heap.size w (w5.drewN q6) := ⟨HB5.out.os, HB5.out.tape, HB5.out.output, HB5.out.size, HB5.out.block⟩
          exact h5.trans (hb7.mono h5.size)
        clear hb7 HZ
        go_wp2
        go_ret
        exact ⟨by simp, HB7.out⟩
end Go.Proofs.Qxb6605568a
