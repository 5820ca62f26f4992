/-
  FnHuffmanLengthsScaleFree (function 4): its walks.
-/
import Derived.Test.Qxb6605568aFull
namespace Go.Proofs.Qxb6605568a
open Go.RowKit
set_option linter.unusedVariables false

theorem sf_long1 (a0 : Option Addr) (len0 cap0 : Nat) (a1 : Int) (w : World) (h : 1048576 < len0) (hm : len0 ≤ maxLen) :
    Calls Try.prog 4 #[.slice a0 len0 cap0, .int .u32 a1] w fun e w' => e = .returned (.bool true) ∧ w' = w := by
  unfold maxLen at hm
  go_enter Try.func4, Try.ntmps4
  go_wp2
  go_ret
  exact ⟨rfl, rfl⟩
theorem sf_long2 (a0 : Option Addr) (len0 cap0 : Nat) (a1 : Int) (w : World) (h : 65536 < len0) (hm : len0 ≤ 1048576) :
    Calls Try.prog 4 #[.slice a0 len0 cap0, .int .u32 a1] w fun e w' => e = .returned (.bool true) ∧ w' = w := by
  go_enter Try.func4, Try.ntmps4
  go_wp2
  go_ret
  exact ⟨rfl, rfl⟩
theorem sf_short (a0 : Option Addr) (len0 cap0 : Nat) (a1 : Int) (w : World) (h : len0 < 2) :
    Calls Try.prog 4 #[.slice a0 len0 cap0, .int .u32 a1] w fun e w' => e = .returned (.bool true) ∧ w' = w := by
  have h1 : (len0 : Int) < 2 := by omega
  go_enter Try.func4, Try.ntmps4
  go_wp2
  go_ret
  exact ⟨rfl, rfl⟩
theorem sf_none (a0 : Option Addr) (len0 cap0 : Nat) (a1 : Int) (w : World) (h : 2 ≤ len0) (hm : len0 ≤ 65536) (hk : a1 < 1) :
    Calls Try.prog 4 #[.slice a0 len0 cap0, .int .u32 a1] w fun e w' => e = .returned (.bool true) ∧ w' = w := by
  have h1 : decide ((len0 : Int) < 2) = false := by simp; omega
  go_enter Try.func4, Try.ntmps4
  go_wp2
  go_ret
  exact ⟨rfl, rfl⟩

theorem take_sum (ws : List Nat) (i : Nat) (h : i < ws.length) : (ws.take (i + 1)).sum = (ws.take i).sum + ws.getD i 0 := by
  rw [List.take_succ_eq_append_getElem h, List.sum_append, List.sum_singleton]
  simp [List.getD, h]
theorem take_sum_le (ws : List Nat) (B : Nat) (hb : ∀ x ∈ ws, x ≤ B) : ∀ i, (ws.take i).sum ≤ i * B := by
  intro i
  induction ws generalizing i with
  | nil => simp
  | cons x r ih =>
    cases i with
    | zero => simp
    | succ i =>
      have h1 := hb x (by simp)
      have h2 := ih (fun y hy => hb y (by simp [hy])) i
      simp only [List.take_succ_cons, List.sum_cons, Nat.add_mul, Nat.one_mul]
      omega

/-- A list of numbers that is being laid. -/
def halfN (xs : List Nat) (k : Nat) : List Nat := xs.take k ++ List.replicate (xs.length - k) 0
theorem halfN_length (xs : List Nat) (k : Nat) (h : k ≤ xs.length) : (halfN xs k).length = xs.length := by simp [halfN]; omega
theorem halfN_zero (xs : List Nat) : halfN xs 0 = List.replicate xs.length 0 := by simp [halfN]
theorem halfN_all (xs : List Nat) (k : Nat) (h : xs.length ≤ k) : halfN xs k = xs := by simp [halfN, List.take_of_length_le h, show xs.length - k = 0 by omega]
theorem halfN_set (xs : List Nat) (k : Nat) (h : k < xs.length) : (halfN xs k).set k (xs.getD k 0) = halfN xs (k + 1) := by
  have e1 : halfN xs k = xs.take k ++ 0 :: List.replicate (xs.length - (k + 1)) 0 := by
    rw [halfN, show xs.length - k = (xs.length - (k + 1)) + 1 from by omega, List.replicate_succ]
  have e2 : halfN xs (k + 1) = xs.take k ++ xs.getD k 0 :: List.replicate (xs.length - (k + 1)) 0 := by
    rw [halfN, List.take_succ_eq_append_getElem h, List.append_assoc, List.singleton_append]
    simp [List.getD, h]
  rw [e1, Huff.set_mid _ _ _ _ _ (by simp; omega), e2]
theorem sum_scale (k : Nat) : ∀ ws : List Nat, (ws.map (k * ·)).sum = k * ws.sum
  | [] => by simp
  | x :: r => by simp [sum_scale k r, Nat.mul_add]

set_option maxRecDepth 100000 in
set_option maxHeartbeats 4000000 in
theorem sf_main (b off cap0 n k : Nat) (ws : List Nat) (w : World) (HN : Hid (ws.length = n)) (hn : 2 ≤ n) (hn' : n ≤ 65536) (hk : 1 ≤ k) (hk' : k < 4294967296) (HW : Hid (∀ x ∈ ws, x ≤ 4294967295)) (hb : b < w.heap.size)
    (HC : Hid (∀ i, i < n → w.cell? ⟨b, off + i, none⟩ = some (.int .u32 ((ws.getD i 0 : Nat) : Int)))) :
    Calls Try.prog 4 #[.slice (some ⟨b, off, none⟩) n cap0, .int .u32 k] w fun e w' => e = .returned (.bool true) ∧ Below w.heap.size w w' := by
  have h1 : decide ((n : Int) < 2) = false := by simp; omega
  have h2 : decide (n < 2) = false := by simp; omega
  have h3 : decide ((k : Int) < 1) = false := by simp; omega
  have h4 : decide (k < 1) = false := by simp; omega
  go_enter Try.func4, Try.ntmps4
  go_wp2
  go_loopg [6, 7] n (fun g s6 s7 wx => ∃ i S : Nat, s6 = .int .u64 S ∧ s7 = .int .i64 i ∧ (i + g ≤ n ∧ n ≤ i + g) ∧ Hid (S = (ws.take i).sum) ∧ ∃ q, wx = w.drewN q)
  case atStart => exact ⟨0, 0, rfl, rfl, by omega, rfl, 0, rfl⟩
  case round =>
    obtain ⟨i, S, rfl, rfl, ⟨hi1, hi2⟩, HS, q, rfl⟩ := hrel
    have hSb : S ≤ i * 4294967295 := by rw [HS.out]; exact take_sum_le ws _ HW.out i
    by_cases hin : i < n
    · obtain ⟨x, hx⟩ : ∃ x, x = ws.getD i 0 := ⟨_, rfl⟩
      have cx := HC.out i hin
      rw [← hx] at cx
      have hxb : x ≤ 4294967295 := by rw [hx]; exact HW.out _ (by have := HN.out; simp [List.getD, show i < ws.length by omega])
      have HS2 : Hid (S + x = (ws.take (i + 1)).sum) := by show _ = _; rw [take_sum ws i (by rw [HN.out]; exact hin), ← hx, HS.out]
      have i1 : (i : Int) < (n : Int) := by omega
      have hS2 : S + x < 18446744073709551616 := by omega
      clear hx HS
      by_cases hi0 : 1 ≤ i
      · obtain ⟨y, hy⟩ : ∃ y, y = ws.getD (i - 1) 0 := ⟨_, rfl⟩
        have cy := HC.out (i - 1) (by omega)
        rw [← hy] at cy
        have hd1 : (0 : Int) < (i : Int) := by omega
        have hd4 : 0 < i := by omega
        have eo : off + i - 1 = off + (i - 1) := by omega
        clear hy
        by_cases hyx : x < y
        · have hc1 : (x : Int) < (y : Int) := by omega
          go_wp2
          go_big_quiet (fail)
          go_wp2
          go_ret
          exact ⟨rfl, ⟨rfl, rfl, rfl, Nat.le_refl _, fun _ _ => rfl⟩⟩
        · have hc1 : decide ((x : Int) < (y : Int)) = false := by simp; omega
          have hc2 : decide (x < y) = false := by simp; omega
          go_wp2
          go_big_quiet (fail)
          go_wp2
          go_roundg (gk - 1)
          case measure => omega
          case rel => exact ⟨i + 1, S + x, by go_num, by go_num, by omega, HS2, _, rfl⟩
      · have hd1 : decide ((0 : Int) < (i : Int)) = false := by simp; omega
        have hd2 : decide (0 < i) = false := by simp; omega
        go_wp2
        go_big_quiet (fail)
        go_wp2
        go_roundg (gk - 1)
        case measure => omega
        case rel => exact ⟨i + 1, S + x, by go_num, by go_num, by omega, HS2, _, rfl⟩
    · have hS : S = ws.sum := by rw [HS.out, List.take_of_length_le (by rw [HN.out]; omega)]
      have HS3 : Hid (S = ws.sum) := hS
      clear hS HS
      have HCw : Hid (RowsAt .u32 (w.drewN q) ⟨b, off, none⟩ (nats ws)) := by
        intro j hj
        rw [nats_length, HN.out] at hj
        rw [Addr.add_lit, nats_getD]
        exact HC.out j hj
      have HBw : Hid (Below w.heap.size w (w.drewN q)) := ⟨rfl, rfl, rfl, Nat.le_refl _, fun _ _ => rfl⟩
      have hS64 : S ≤ 281474976645120 := by omega
      by_cases hA : 4294967295 < S
      · have hA' : (4294967295 : Int) < (S : Int) := by omega
        go_wp2
        go_ret
        exact ⟨rfl, HBw.out⟩
      · have hA1 : decide ((4294967295 : Int) < (S : Int)) = false := by simp; omega
        have hA2 : decide (4294967295 < S) = false := by simp; omega
        have hnl : S * k ≤ 4294967295 * 4294967295 := Nat.mul_le_mul (by omega) (by omega)
        obtain ⟨M, hM⟩ : ∃ M, M = S * k := ⟨_, rfl⟩
        have hMi : (S : Int) * (k : Int) = (M : Int) := by rw [hM]; simp
        have HM : Hid (M = S * k) := hM
        rw [← hM] at hnl
        clear hM
        by_cases hB : 4294967295 < M
        · have hB' : (4294967295 : Int) < (M : Int) := by omega
          go_wp2
          go_ret
          exact ⟨rfl, HBw.out⟩
        · have hB1 : decide ((4294967295 : Int) < (M : Int)) = false := by simp; omega
          have hB2 : decide (4294967295 < M) = false := by simp; omega
          have HNn : Hid ((nats ws).length = n) := by show _ = _; rw [nats_length]; exact HN.out
          generalize w.drewN q = wq at HCw HBw ⊢
          clear HC hnl hSb hA1 hA2 hB1 hB2 h1 h2 h3 h4
          go_wp2_with fail
          refine (clone32_some ⟨b, off, none⟩ cap0 (nats ws) n HNn (by omega) (by omega) wq HCw.out).mono ?_
          rintro e w1 ⟨rfl, rfl⟩
          go_wp2_with fail
          refine (clone32_some ⟨wq.heap.size, 0, none⟩ n (nats ws) n HNn (by omega) (by omega) _ (rowsAt_alloc .u32 wq (nats ws) 25)).mono ?_
          rintro e w1 ⟨rfl, rfl⟩
          have mk := make22 n (by omega)
          go_wp2_with fail
          clear mk
          obtain ⟨H, hH⟩ : ∃ H, H = wq.heap.size := ⟨_, rfl⟩
          obtain ⟨W0, hW0⟩ : ∃ W0, W0 = ((wq.alloc (.cells (cellsOf .u32 (nats ws)) 25)).alloc (.cells (cellsOf .u32 (nats ws)) 25)).alloc (.cells (cellsOf .u32 (List.replicate n 0)) 25) := ⟨_, rfl⟩
          obtain ⟨ks, hks⟩ : ∃ ks, ks = ws.map (k * ·) := ⟨_, rfl⟩
          have HKS : Hid (ks = ws.map (k * ·)) := hks
          have hksl : ks.length = n := by rw [hks, List.length_map]; exact HN.out
          have HKL : Hid (ks.length = n) := hksl
          have g0 : W0.heap[H]? = some (.cells (cellsOf .u32 (nats ws)) 25 (0, 0)) := by
            rw [hW0, hH, Below.heap_alloc _ _ _ (by simp; omega), heap_alloc2_old]
          have g1 : W0.heap[H + 1]? = some (.cells (cellsOf .u32 (nats ws)) 25 (0, 0)) := by
            rw [hW0, hH, Below.heap_alloc _ _ _ (by simp), heap_alloc2_new]
          have g2 : W0.heap[H + 1 + 1]? = some (.cells (cellsOf .u32 (nats (List.replicate n 0))) 25 (0, 0)) := by
            have e : nats (List.replicate n 0) = List.replicate n 0 := by simp [nats]
            rw [hW0, hH, e]
            simpa using heap_alloc_new ((wq.alloc (.cells (cellsOf .u32 (nats ws)) 25)).alloc (.cells (cellsOf .u32 (nats ws)) 25)) (.cells (cellsOf .u32 (List.replicate n 0)) 25)
          have HB0 : Hid (Below w.heap.size w W0) := by
            show Below _ _ _
            have := HBw.out.size
            rw [hW0]
            exact ((HBw.out.alloc (by omega) _).alloc (by simp; omega) _).alloc (by simp; omega) _
          have hHw : w.heap.size ≤ H := by rw [hH]; exact HBw.out.size
          rw [← hW0, ← hH]
          clear hW0 hH HCw HBw hks hksl HNn
          have HR0 : Hid (Row .u32 25 (H + 1 + 1) W0 (halfN ks 0) W0) := by
            show Row _ _ _ _ _ _
            rw [halfN_zero, HKL.out]
            exact Row.start g2
          have HX : Hid (∀ xs wx, Row .u32 25 (H + 1 + 1) W0 xs wx → ∀ j, j < n → ∃ x p, wx.cell? ⟨H, j, none⟩ = some (.int .u32 ((x : Nat) : Int)) ∧ (x : Int) * (k : Int) = (p : Nat) ∧ p < 4294967296 ∧ p = ks.getD j 0) := by
            intro xs wx hR j hj
            have hjl : j < ws.length := by rw [HN.out]; exact hj
            have h1 : wx.heap[H]? = some (.cells (cellsOf .u32 (nats ws)) 25 (0, 0)) := (hR.other H (by omega)).trans g0
            have hc : wx.cell? ⟨H, j, none⟩ = some (.int .u32 ((ws.getD j 0 : Nat) : Int)) := by
              rw [cell_of_row wx H j _ 25 (0, 0) h1, cellsOf_get .u32 (nats ws) j (by rw [nats_length]; exact hjl), nats_getD]
            have hle : ws.getD j 0 ≤ S := by rw [HS3.out]; exact le_sum ws _ (by simp [List.getD, hjl])
            refine ⟨ws.getD j 0, k * ws.getD j 0, hc, by rw [Nat.mul_comm]; simp, ?_, ?_⟩
            · have := Nat.mul_le_mul_left k hle
              have := HM.out
              rw [Nat.mul_comm S k] at this
              omega
            · rw [HKS.out, Huff.getD_scale]
          have HG : Hid (W0.heap[H + 1]? = some (.cells (cellsOf .u32 (nats ws)) 25 (0, 0))) := g1
          clear g0 g1 g2
          go_loopg [10] n (fun g s10 wx => ∃ j : Nat, s10 = .int .i64 j ∧ (j + g ≤ n ∧ n ≤ j + g) ∧ Hid (Row .u32 25 (H + 1 + 1) W0 (halfN ks j) wx))
          case atStart => exact ⟨0, rfl, by omega, HR0⟩
          case round =>
            clear HR0
            obtain ⟨j, rfl, ⟨hj1, hj2⟩, HR⟩ := hrel
            by_cases hjn : j < n
            · obtain ⟨x, p, cx, exk, hp, hpe⟩ := HX.out _ _ HR.out j hjn
              have co := HR.out.cell j (by rw [halfN_length _ _ (by rw [HKL.out]; omega), HKL.out]; exact hjn)
              have fo := HR.out.frozen j
              have HR2 : Hid (Row .u32 25 (H + 1 + 1) W0 (halfN ks (j + 1)) (wr.setCell ⟨H + 1 + 1, j, none⟩ (.int .u32 (p : Int)))) := by
                have := HR.out.set j p p rfl
                rw [hpe, halfN_set ks j (by rw [HKL.out]; exact hjn), ← hpe] at this
                exact this
              have i1 : (j : Int) < (n : Int) := by omega
              clear hpe HR
              go_wp2
              go_roundg (gk - 1)
              case measure => omega
              case rel => exact ⟨j + 1, by go_num, by omega, HR2⟩
            · have HR3 : Hid (Row .u32 25 (H + 1 + 1) W0 ks wr) := by
                have := HR.out
                rw [halfN_all ks j (by rw [HKL.out]; omega)] at this
                exact this
              clear HR HX
              have HGw : Hid (Row .u32 25 (H + 1) wr ws wr) := Row.start ((HR3.out.other (H + 1) (by omega)).trans HG.out)
              have hsum : ws.sum < 4294967296 := by rw [← HS3.out]; omega
              go_wp2_with fail
              refine (zzhl_any (H + 1) n n ws wr HN hn hn' hsum HGw).mono ?_
              rintro e w4 ⟨rfl, hR4⟩
              have HR4 : Hid (Row .u32 25 (H + 1) wr (Huff.hl ws) w4) := hR4
              have HG2 : Hid (Row .u32 25 (H + 1 + 1) w4 ks w4) := Row.start ((hR4.other (H + 1 + 1) (by omega)).trans HR3.out.here)
              have hsum2 : ks.sum < 4294967296 := by
                rw [HKS.out, sum_scale, Nat.mul_comm, ← HS3.out, ← HM.out]; omega
              clear hR4
              go_wp2_with fail
              refine (zzhl_any (H + 1 + 1) n n ks w4 HKL hn hn' hsum2 HG2).mono ?_
              rintro e w5 ⟨rfl, hR5⟩
              have ehl : Huff.hl ks = Huff.hl ws := by rw [HKS.out]; exact Huff.hl_scale k hk ws
              rw [ehl] at hR5
              have hhl : (Huff.hl ws).length = n := by rw [Huff.hl_length ws (by rw [HN.out]; exact hn)]; exact HN.out
              have g5 : w5.heap[H + 1]? = some (.cells (cellsOf .u32 (nats (Huff.hl ws))) 25 (0, 0)) := (hR5.other (H + 1) (by omega)).trans HR4.out.here
              have HB5 : Hid (Below w.heap.size w w5) := by
                have h0 := HB0.out
                have h3 := HR3.out
                have h4 := HR4.out
                exact ⟨hR5.os.trans (h4.os.trans (h3.os.trans h0.os)), hR5.tape.trans (h4.tape.trans (h3.tape.trans h0.tape)), hR5.output.trans (h4.output.trans (h3.output.trans h0.output)),
                  by rw [hR5.size, h4.size, h3.size]; exact h0.size, fun j hj => (hR5.other j (by omega)).trans ((h4.other j (by omega)).trans ((h3.other j (by omega)).trans (h0.block j hj)))⟩
              have hsz5 : H + 1 < w5.heap.size := (Array.getElem?_eq_some_iff.1 g5).1
              have HC5 : Hid (∀ j, j < n → w5.cell? ⟨H + 1, j, none⟩ = some (.int .u32 (((Huff.hl ws).getD j 0 : Nat) : Int)) ∧ w5.cell? ⟨H + 1 + 1, j, none⟩ = some (.int .u32 (((Huff.hl ws).getD j 0 : Nat) : Int))) := by
                intro j hj
                refine ⟨?_, hR5.cell j (by rw [hhl]; exact hj)⟩
                rw [cell_of_row w5 (H + 1) j _ 25 (0, 0) g5, cellsOf_get .u32 _ j (by rw [nats_length, hhl]; exact hj), nats_getD]
              have HF : Hid (Huff.Full n (fun d => (Huff.depths 0 (Huff.parents ws)).count d) (Huff.hl ws)) := by
                have := Huff.hl_full ws (by rw [HN.out]; exact hn)
                rw [HN.out] at this
                exact this
              have HHL : Hid ((Huff.hl ws).length = n) := hhl
              clear g5 hhl hR5 ehl HR3 HR4 HG HG2 HGw HB0 hsum hsum2 HKS HKL HM HS3 hMi HW
              go_wp2
              go_loopg [11] n (fun g s11 wx => ∃ j : Nat, s11 = .int .i64 j ∧ (j + g ≤ n ∧ n ≤ j + g) ∧ ∃ q, wx = w5.drewN q)
              case atStart => exact ⟨0, rfl, by omega, 0, rfl⟩
              case round =>
                obtain ⟨j, rfl, ⟨hj1, hj2⟩, q, rfl⟩ := hrel
                by_cases hjn : j < n
                · obtain ⟨c1, c2⟩ := HC5.out j hjn
                  obtain ⟨v, hv⟩ : ∃ v, v = (Huff.hl ws).getD j 0 := ⟨_, rfl⟩
                  rw [← hv] at c1 c2
                  have i1 : (j : Int) < (n : Int) := by omega
                  clear hv
                  go_wp2
                  go_big_quiet (fail)
                  go_wp2
                  go_roundg (gk - 1)
                  case measure => omega
                  case rel => exact ⟨j + 1, by go_num, by omega, _, rfl⟩
                · go_wp2_with fail
                  refine (full_any (H + 1) n n (Huff.hl ws) _ (w5.drewN q) HHL hn hn' HF (fun i hi => (HC5.out i hi).1) hsz5).mono ?_
                  rintro e w6 ⟨rfl, hb6⟩
                  have HB6 : Hid (Below w.heap.size w w6) := by
                    have h5 : Below w.heap.size w (w5.drewN q) := ⟨HB5.out.os, HB5.out.tape, HB5.out.output, HB5.out.size, HB5.out.block⟩
                    exact h5.trans (hb6.mono h5.size)
                  clear hb6
                  go_wp2
                  go_ret
                  exact ⟨rfl, HB6.out⟩
end Go.Proofs.Qxb6605568a
