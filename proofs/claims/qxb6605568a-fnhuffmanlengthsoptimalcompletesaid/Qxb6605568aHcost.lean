/-
  huffmanCost (function 12) and weightedCost (function 11), walked.
-/
import Derived.Test.Qxb6605568aPop
import Derived.Test.Qxb6605568aPay
namespace Go.Proofs.Qxb6605568a
open Go.RowKit
set_option linter.unusedVariables false

theorem HAt.self {B H n cap : Nat} {hs : List Nat} {w0 wr : World} (h : HAt B H n cap hs w0 wr) : HAt B H n cap hs wr wr := ⟨h.own, World.grownBy.refl _ _⟩
theorem HAt.from {B H n n' cap : Nat} {hs hs' : List Nat} {w0 wr w2 : World} (h : HAt B H n cap hs w0 wr) (h2 : HAt B H n' cap hs' wr w2) : HAt B H n' cap hs' w0 w2 := ⟨h2.own, grownBy_trans h.kept h2.kept⟩

/-- 'make([]uint64, 0, n)'. -/
theorem make37c (n : Nat) (hn : n ≤ 1048576) (w : World) : (Instr.makeSlice 37 (.int .i64 0) (.int .i64 (n : Int))).run Try.prog w =
    .ok (.slice (some ⟨w.heap.size, 0, none⟩) 0 n) (w.alloc (.cells (cellsOf .u64 (nats (List.replicate n 0))) 24)) := by
  obtain ⟨i0, hi, hz0, hz1, hz2⟩ := info_parts Try.info24
  have h := run_make (P := Try.prog) w 37 24 i0 (.int .u64 0) Try.underlying37 hi hz0 .i64 .i64 0 n (by omega) (by omega) (by rw [hz2]; omega) (by omega)
  rw [h, hz1]
  simp only [Int.toNat_natCast, Nat.mul_one]
  have e : nats (List.replicate n 0) = List.replicate n 0 := by simp [nats]
  rw [e, ← made_zeros]
  rfl

/-- One round of the merging. -/
theorem merge_round {hs hs1 hs2 hs3 : List Nat} {x y m : Nat} (hl : hs.length = m + 1 + 1) (hh : Huff.Heap hs) (hx : x = hs.getD 0 0) (p1 : hs1.Perm (Huff.cutTop hs)) (hh1 : Huff.Heap hs1) (hy : y = hs1.getD 0 0) (p2 : hs2.Perm (Huff.cutTop hs1)) (p3 : hs3.Perm ((x + y) :: hs2)) :
    Huff.mc (m + 1) hs = (x + y) + Huff.mc m hs3 ∧ hs3.sum = hs.sum ∧ x + y ≤ hs.sum := by
  have l1 : hs1.length = m + 1 := by rw [p1.length_eq, Huff.cutTop_length]; omega
  have a1 := Huff.cutTop_perm hs (by omega)
  have a2 := Huff.cutTop_perm hs1 (by omega)
  rw [← hx] at a1
  rw [← hy] at a2
  have b1 : hs.Perm (x :: hs1) := a1.trans (p1.symm.cons x)
  have b2 : hs1.Perm (y :: hs2) := a2.trans (p2.symm.cons y)
  have b3 : hs.Perm (x :: y :: hs2) := b1.trans (b2.cons x)
  have hxy : x ≤ y := by
    have := Huff.heap_head hh (by omega) y (p1.subset (b2.symm.subset (by simp)))
    rw [← hx] at this
    exact this
  have hyz : ∀ z ∈ hs2, y ≤ z := by
    intro z hz
    have := Huff.heap_head hh1 (by omega) z (p2.subset hz)
    rw [← hy] at this
    exact this
  have s1 := b3.sum_nat
  have s2 := p3.sum_nat
  simp only [List.sum_cons] at s1 s2
  refine ⟨?_, by omega, by omega⟩
  rw [Huff.mc_step m b3 hxy hyz, Huff.mc_perm p3]

set_option maxRecDepth 100000 in
set_option maxHeartbeats 4000000 in
theorem hcost_any (g cap n : Nat) (ws : List Nat) (w : World) (HN : Hid (ws.length = n)) (hn : 2 ≤ n) (hn' : n ≤ 65536) (hsum : ws.sum < 4294967296) (hg : g < w.heap.size)
    (HC : Hid (∀ i, i < n → w.cell? ⟨g, i, none⟩ = some (.int .u32 ((ws.getD i 0 : Nat) : Int)))) :
    Calls Try.prog 12 #[.slice (some ⟨g, 0, none⟩) n cap] w fun e w' => e = .returned (.int .u64 ((Huff.mc (n - 1) ws : Nat) : Int)) ∧ Below w.heap.size w w' := by
  have mk := make37c n (by omega)
  obtain ⟨H, hH⟩ : ∃ H, H = w.heap.size := ⟨_, rfl⟩
  obtain ⟨W0, hW0⟩ : ∃ W0, W0 = w.alloc (.cells (cellsOf .u64 (nats (List.replicate n 0))) 24) := ⟨_, rfl⟩
  have HA0 : Hid (HAt H H 0 n [] W0 W0) := by
    refine ⟨?_, World.grownBy.refl _ _⟩
    rw [hW0, hH]
    refine ⟨by simp [nats], .inr ⟨w.heap.size, n, cellsOf .u64 (nats (List.replicate n 0)), rfl, Nat.le_refl _, heap_alloc_new w _, by omega, by unfold maxLen; omega, by rw [cellsOf_size, nats_length]; simp, by simp [nats]⟩⟩
  have HB0 : Hid (Below H w W0) := by
    show Below _ _ _
    rw [hW0, hH]
    exact (Below.refl _ _).alloc (Nat.le_refl _) _
  have hsz : H < W0.heap.size := by rw [hW0, hH]; simp
  have mk' : (Instr.makeSlice 37 (.int .i64 0) (.int .i64 (n : Int))).run Try.prog w = .ok (.slice (some ⟨H, 0, none⟩) 0 n) W0 := by rw [hW0, hH]; exact mk w
  rw [← hH] at hg
  have HBr : Hid (∀ m hs wr, HAt H H m n hs W0 wr → Below H w wr) := by
    intro m hs wr h
    exact HB0.out.grown h.kept (by omega) (by intro k hk; simp at hk; omega)
  clear mk hW0
  rw [← hH]
  clear hH
  go_enter Try.func12, Try.ntmps12
  go_wp2
  clear mk'
  go_loopg [3, 4] n (fun k s3 s4 wx => ∃ i : Nat, s3 = .slice (some ⟨H, 0, none⟩) i n ∧ s4 = .int .i64 i ∧ (i + k ≤ n ∧ n ≤ i + k) ∧ ∃ hs, Hid (HAt H H i n hs W0 wx) ∧ Hid (Huff.Heap hs ∧ hs.Perm (ws.take i)))
  case atStart => exact ⟨0, rfl, rfl, by omega, [], HA0, by intro j h1 h2; simp at h2, by simp⟩
  case round =>
    clear HA0
    obtain ⟨i, rfl, rfl, ⟨hi1, hi2⟩, hs, HA, HP⟩ := hrel
    by_cases hin : i < n
    · have cx : wr.cell? ⟨g, i, none⟩ = some (.int .u32 ((ws.getD i 0 : Nat) : Int)) := by
        rw [(HBr.out _ _ _ HA.out).cell (p := ⟨g, i, none⟩) hg]; exact HC.out i hin
      obtain ⟨x, hx⟩ : ∃ x, x = ws.getD i 0 := ⟨_, rfl⟩
      have hil : i < ws.length := by rw [HN.out]; exact hin
      have hxb : x < 4294967296 := by
        have := le_sum ws (ws.getD i 0) (by simp [List.getD, hil])
        omega
      have HX : Hid (ws.take (i + 1) = ws.take i ++ [x]) := by
        show _ = _
        rw [List.take_succ_eq_append_getElem hil, hx]
        simp [List.getD, hil]
      rw [← hx] at cx
      clear hx hil
      have i1 : (i : Int) < (n : Int) := by omega
      go_wp2_with fail
      refine (push_any H H i n x hs wr HA.out.self HP.out.1 hin hn' (by omega) (Nat.le_refl _)).mono ?_
      rintro e w1 ⟨rfl, hs', h1, h2, h3⟩
      have HA1 : Hid (HAt H H (i + 1) n hs' W0 w1) := HA.out.from h1
      have HP1 : Hid (Huff.Heap hs' ∧ hs'.Perm (ws.take (i + 1))) := by
        refine ⟨h2, ?_⟩
        rw [HX.out]
        exact h3.trans ((HP.out.2.cons x).trans (List.perm_append_comm (l₁ := [x])))
      clear h1 h2 h3 HA HP HX
      go_wp2
      go_roundg (gk - 1)
      case measure => omega
      case rel => exact ⟨i + 1, rfl, by go_num, by omega, hs', HA1, HP1⟩
    · have hie : i = n := by omega
      subst hie
      have HP1 : Hid (Huff.Heap hs ∧ 0 + Huff.mc (i - 1) hs = Huff.mc (i - 1) ws ∧ hs.sum = ws.sum) := by
        have hp := HP.out.2
        rw [List.take_of_length_le (by rw [HN.out]; exact Nat.le_refl _)] at hp
        exact ⟨HP.out.1, by rw [Huff.mc_perm hp]; omega, hp.sum_nat⟩
      clear HP
      go_wp2
      go_loopg [3, 5, 6, 7] i (fun k s3 s5 s6 s7 wx => ∃ cost : Nat, s3 = .slice (some ⟨H, 0, none⟩) k i ∧ s5 = .int .u64 cost ∧ (1 ≤ k ∧ k ≤ i ∧ cost ≤ (i - k) * 4294967296) ∧ ∃ hs, Hid (HAt H H k i hs W0 wx) ∧ Hid (Huff.Heap hs ∧ cost + Huff.mc (k - 1) hs = Huff.mc (i - 1) ws ∧ hs.sum = ws.sum))
      case atStart => exact ⟨0, rfl, rfl, by omega, hs, HA, HP1⟩
      case round =>
        clear HA HP1 hs
        obtain ⟨cost, rfl, rfl, ⟨hk1, hk2, hcb⟩, hs, HA, HP⟩ := hrel
        by_cases hk : 2 ≤ gk
        · obtain ⟨m, rfl⟩ : ∃ m, gk = m + 1 + 1 := ⟨gk - 2, by omega⟩
          have i1 : (1 : Int) < (m : Int) + 1 + 1 := by omega
          have hl := HA.out.len
          obtain ⟨x, hx⟩ : ∃ x, x = hs.getD 0 0 := ⟨_, rfl⟩
          go_wp2_with fail
          refine (pop_any H H (m + 1) i hs wr HA.out.self HP.out.1 hk2 hn' (Nat.le_refl _)).mono ?_
          rw [← hx]
          rintro e w1 ⟨rfl, hs1, a1, a2, a3⟩
          have HA1 : Hid (HAt H H (m + 1) i hs1 W0 w1) := HA.out.from a1
          obtain ⟨y, hy⟩ : ∃ y, y = hs1.getD 0 0 := ⟨_, rfl⟩
          have H1 : Hid (hs.length = m + 1 + 1 ∧ x = hs.getD 0 0 ∧ hs1.Perm (Huff.cutTop hs) ∧ Huff.Heap hs1 ∧ y = hs1.getD 0 0) := ⟨hl, hx, a3, a2, hy⟩
          clear hl hx a1 a2 a3 hy HA
          go_wp2_with fail
          refine (pop_any H H m i hs1 w1 HA1.out.self H1.out.2.2.2.1 (by omega) hn' (Nat.le_refl _)).mono ?_
          rw [← H1.out.2.2.2.2]
          rintro e w2 ⟨rfl, hs2, a1, a2, a3⟩
          have HA2 : Hid (HAt H H m i hs2 W0 w2) := HA1.out.from a1
          have H2 : Hid (Huff.Heap hs2 ∧ hs2.Perm (Huff.cutTop hs1)) := ⟨a2, a3⟩
          clear a1 a2 a3 HA1
          have hxy : x + y < 4294967296 := by
            obtain ⟨l, e1, e2, e3, e4⟩ := H1.out
            have := (merge_round l HP.out.1 e1 e2 e3 e4 H2.out.2 (List.Perm.refl _)).2.2
            have := HP.out.2.2
            omega
          have hcost : cost ≤ 281474976710656 := by
            have : (i - (m + 1 + 1)) * 4294967296 ≤ 65536 * 4294967296 := Nat.mul_le_mul_right _ (by omega)
            omega
          go_wp2_with fail
          refine (push_any H H m i (x + y) hs2 w2 HA2.out.self H2.out.1 (by omega) hn' (by omega) (Nat.le_refl _)).mono ?_
          rintro e w3 ⟨rfl, hs3, a1, a2, a3⟩
          have HA3 : Hid (HAt H H (m + 1) i hs3 W0 w3) := HA2.out.from a1
          have HP3 : Hid (Huff.Heap hs3 ∧ (cost + (x + y)) + Huff.mc (m + 1 - 1) hs3 = Huff.mc (i - 1) ws ∧ hs3.sum = ws.sum) := by
            obtain ⟨l, e1, e2, e3, e4⟩ := H1.out
            have hr := merge_round l HP.out.1 e1 e2 e3 e4 H2.out.2 a3
            have h1 := HP.out.2.1
            have h2 := HP.out.2.2
            simp only [Nat.add_sub_cancel] at h1 ⊢
            rw [hr.1] at h1
            exact ⟨a2, by omega, by omega⟩
          clear a1 a2 a3 HA2 H1 H2 HP
          go_wp2
          go_roundg (m + 1)
          case measure => omega
          case rel => exact ⟨cost + (x + y), rfl, by go_num, by omega, hs3, HA3, HP3⟩
        · have hk3 : gk = 1 := by omega
          have hcost : cost = Huff.mc (i - 1) ws := by
            have := HP.out.2.1
            rw [hk3] at this
            simpa [Huff.mc] using this
          have HB : Hid (Below H w wr) := HBr.out _ _ _ HA.out
          have HQ : Hid (cost = Huff.mc (i - 1) ws) := hcost
          clear hcost hk3 HA HP
          go_wp2
          go_ret
          exact ⟨congrArg (fun z : Nat => Ending.returned (.int .u64 (z : Int))) HQ.out, HB.out⟩

/-- The first i products, summed. -/
def wTo (ws C : List Nat) (i : Nat) : Nat := ((List.range i).map fun j => ws.getD j 0 * C.getD j 0).sum
theorem wTo_succ (ws C : List Nat) (i : Nat) : wTo ws C (i + 1) = wTo ws C i + ws.getD i 0 * C.getD i 0 := by
  simp only [wTo, List.range_succ, List.map_append, List.map_cons, List.map_nil, List.sum_append, List.sum_cons, List.sum_nil, Nat.add_zero]
theorem wTo_le (ws C : List Nat) (hC : ∀ x ∈ C, x ≤ 65536) : ∀ i, i ≤ ws.length → wTo ws C i ≤ (ws.take i).sum * 65536
  | 0, _ => by simp [wTo]
  | i + 1, h => by
    have ih := wTo_le ws C hC i (by omega)
    have e : (ws.take (i + 1)).sum = (ws.take i).sum + ws.getD i 0 := by
      rw [List.take_succ_eq_append_getElem (by omega), List.sum_append, List.sum_singleton]
      simp [List.getD, show i < ws.length by omega]
    have hc : C.getD i 0 ≤ 65536 := by
      by_cases hi : i < C.length
      · exact hC _ (by simp [List.getD, hi])
      · simp only [List.getD, List.getElem?_eq_none (Nat.le_of_not_lt hi), Option.getD_none]; omega
    have := Nat.mul_le_mul_left (ws.getD i 0) hc
    rw [wTo_succ, e, Nat.add_mul]
    omega
theorem take_sum_le' (ws : List Nat) (i : Nat) : (ws.take i).sum ≤ ws.sum := by
  have := List.take_append_drop i ws
  have h := congrArg List.sum this
  rw [List.sum_append] at h
  omega

theorem wTo_small (ws C : List Nat) (hC : ∀ x ∈ C, x ≤ 65536) (i : Nat) (hi : i ≤ ws.length) (hs : ws.sum < 4294967296) (z : Nat) (hz : z = wTo ws C i) : z ≤ 281474976645120 := by
  have h1 := wTo_le ws C hC i hi
  have h2 := take_sum_le' ws i
  omega

set_option maxRecDepth 100000 in
set_option maxHeartbeats 4000000 in
theorem wcost_any (g g2 cap cap2 n : Nat) (ws C : List Nat) (w : World) (HN : Hid (ws.length = n)) (hn' : n ≤ 65536) (hsum : ws.sum < 4294967296) (HCC : Hid (∀ x ∈ C, x ≤ 65536)) (HN2 : Hid (C.length = n))
    (HC : Hid (∀ i, i < n → w.cell? ⟨g, i, none⟩ = some (.int .u32 ((ws.getD i 0 : Nat) : Int)))) (HC2 : Hid (∀ i, i < n → w.cell? ⟨g2, i, none⟩ = some (.int .u32 ((C.getD i 0 : Nat) : Int)))) :
    Calls Try.prog 11 #[.slice (some ⟨g, 0, none⟩) n cap, .slice (some ⟨g2, 0, none⟩) n cap2] w fun e w' => e = .returned (.int .u64 ((Huff.wcost ws C : Nat) : Int)) ∧ ∃ q, w' = w.drewN q := by
  go_enter Try.func11, Try.ntmps11
  go_wp2
  go_loopg [5, 6] n (fun k s5 s6 wx => ∃ i S : Nat, s5 = .int .u64 S ∧ s6 = .int .i64 i ∧ (i + k ≤ n ∧ n ≤ i + k) ∧ Hid (S = wTo ws C i) ∧ ∃ q, wx = w.drewN q)
  case atStart => exact ⟨0, 0, rfl, rfl, by omega, by simp [wTo, Hid], 0, rfl⟩
  case round =>
    obtain ⟨i, S, rfl, rfl, ⟨hi1, hi2⟩, HS, q, rfl⟩ := hrel
    by_cases hin : i < n
    · have cx := HC.out i hin
      have cy := HC2.out i hin
      obtain ⟨x, hx⟩ : ∃ x, x = ws.getD i 0 := ⟨_, rfl⟩
      obtain ⟨y, hy⟩ : ∃ y, y = C.getD i 0 := ⟨_, rfl⟩
      rw [← hx] at cx
      rw [← hy] at cy
      obtain ⟨p, hp⟩ : ∃ p, p = x * y := ⟨_, rfl⟩
      have HS2 : Hid (S + p = wTo ws C (i + 1)) := by show _ = _; rw [wTo_succ, ← hx, ← hy, ← hp, HS.out]
      have hSb : S + p ≤ 281474976645120 := wTo_small ws C HCC.out (i + 1) (by rw [HN.out]; omega) hsum _ HS2.out
      have hxb : x < 4294967296 := by
        have hil : i < ws.length := by rw [HN.out]; exact hin
        have := le_sum ws (ws.getD i 0) (by simp [List.getD, hil])
        omega
      have hyb : y ≤ 65536 := by
        have hil : i < C.length := by rw [HN2.out]; exact hin
        rw [hy]
        exact HCC.out _ (by simp [List.getD, hil])
      have exy : (x : Int) * (y : Int) = (p : Int) := by rw [hp]; simp
      have i1 : (i : Int) < (n : Int) := by omega
      clear hx hy hp HS
      go_wp2
      go_big_quiet (fail)
      go_wp2
      go_roundg (gk - 1)
      case measure => omega
      case rel => exact ⟨i + 1, S + p, by go_num, by go_num, by omega, HS2, _, rfl⟩
    · have hS : S = Huff.wcost ws C := by
        rw [HS.out, Huff.wcost, HN.out, show n = i from by omega]
        rfl
      have HQ : Hid (S = Huff.wcost ws C) := hS
      clear hS HS
      go_wp2
      go_ret
      exact ⟨congrArg (fun z : Nat => Ending.returned (.int .u64 (z : Int))) HQ.out, _, rfl⟩
end Go.Proofs.Qxb6605568a
