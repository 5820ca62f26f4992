/-
  completeNonincreasing (function 10) says yes wherever 'Huff.Full' holds.
-/
import Derived.Test.Qxb6605568aClone32
namespace Go.Proofs.Qxb6605568a
open Go.RowKit
set_option linter.unusedVariables false

theorem Try.info24 : (Try.prog.info? 24).map (fun i => (i.zero, i.size, i.bytes)) = some (some (.int .u64 0), 1, 8) := by kernel_rfl
/-- 'make([]uint64, n)'. -/
theorem make37 (n : Nat) (hn : n ≤ 1048576) (w : World) : (Instr.makeSlice 37 (.int .i64 (n : Int)) (.int .i64 (n : Int))).run Try.prog w =
    .ok (.slice (some ⟨w.heap.size, 0, none⟩) n n) (w.alloc (.cells (cellsOf .u64 (nats (List.replicate n 0))) 24)) := by
  obtain ⟨i0, hi, hz0, hz1, hz2⟩ := info_parts Try.info24
  have h := run_make (P := Try.prog) w 37 24 i0 (.int .u64 0) Try.underlying37 hi hz0 .i64 .i64 n n (by omega) (by omega) (by rw [hz2]; omega) (by omega)
  rw [h, hz1]
  simp only [Int.toNat_natCast, Nat.mul_one]
  have e : nats (List.replicate n 0) = List.replicate n 0 := by simp [nats]
  rw [e, ← made_zeros]
  rfl

/-- How often each length below n stands among the first i. -/
def cntTo (C : List Nat) (n i : Nat) : List Nat := (List.range n).map fun d => (C.take i).count d
theorem cntTo_length (C : List Nat) (n i : Nat) : (cntTo C n i).length = n := by simp [cntTo]
theorem cntTo_getD (C : List Nat) (n i d : Nat) (h : d < n) : (cntTo C n i).getD d 0 = (C.take i).count d := by simp [cntTo, List.getD, h]
theorem cntTo_zero (C : List Nat) (n : Nat) : cntTo C n 0 = List.replicate n 0 := by
  apply List.ext_getElem <;> simp [cntTo]
theorem cntTo_succ (C : List Nat) (n i d : Nat) (hi : i < C.length) (hd : d = C.getD i 0) (hn : d < n) : (cntTo C n i).set d ((C.take i).count d + 1) = cntTo C n (i + 1) := by
  have e : C.take (i + 1) = C.take i ++ [d] := by
    rw [List.take_succ_eq_append_getElem hi, hd]
    simp [List.getD, hi]
  apply List.ext_getElem
  · simp [cntTo]
  · intro j h1 h2
    simp only [cntTo, List.getElem_set, List.getElem_map, List.getElem_range, e, List.count_append, List.count_cons, List.count_nil]
    by_cases hj : d = j
    · subst hj; simp
    · simp [hj]

set_option maxRecDepth 100000 in
set_option maxHeartbeats 4000000 in
theorem full_any (g cap n : Nat) (C : List Nat) (N : Nat → Nat) (w : World) (HN : Hid (C.length = n)) (hn : 2 ≤ n) (hn' : n ≤ 65536) (HF : Hid (Huff.Full n N C))
    (HC : Hid (∀ i, i < n → w.cell? ⟨g, i, none⟩ = some (.int .u32 ((C.getD i 0 : Nat) : Int)))) (hg : g < w.heap.size) :
    Calls Try.prog 10 #[.slice (some ⟨g, 0, none⟩) n cap] w fun e w' => e = .returned (.bool true) ∧ Below w.heap.size w w' := by
  have mk := make37 n (by omega)
  obtain ⟨w0, hw0⟩ : ∃ w0, w0 = w.alloc (.cells (cellsOf .u64 (nats (List.replicate n 0))) 24) := ⟨_, rfl⟩
  have HR0 : Hid (Row .u64 24 w.heap.size w0 (cntTo C n 0) w0) := by
    show Row .u64 24 w.heap.size w0 (cntTo C n 0) w0
    rw [cntTo_zero, hw0]
    exact Row.start (heap_alloc_new w _)
  have HB0 : Hid (Below w.heap.size w w0) := by
    show Below w.heap.size w w0
    rw [hw0]
    exact (Below.refl _ _).alloc (Nat.le_refl _) _
  have mk' : (Instr.makeSlice 37 (.int .i64 (n : Int)) (.int .i64 (n : Int))).run Try.prog w = .ok (.slice (some ⟨w.heap.size, 0, none⟩) n n) w0 := by rw [hw0]; exact mk w
  clear mk hw0
  have HBr : Hid (∀ xs wr, Row .u64 24 w.heap.size w0 xs wr → Below w.heap.size w wr) := by
    intro xs wr h
    have h0 := HB0.out
    exact ⟨h.os.trans h0.os, h.tape.trans h0.tape, h.output.trans h0.output, by rw [h.size]; exact h0.size, fun k hk => (h.other k (by omega)).trans (h0.block k hk)⟩
  have HC2 : Hid (∀ xs wr, Row .u64 24 w.heap.size w0 xs wr → ∀ i, i < n → ∃ c, wr.cell? ⟨g, i, none⟩ = some (.int .u32 ((c : Nat) : Int)) ∧ c = C.getD i 0 ∧ 1 ≤ c ∧ c ≤ n - 1 ∧ (1 ≤ i → c ≤ C.getD (i - 1) 0)) := by
    intro xs wr h i hi
    have hF := HF.out
    have hil : i < C.length := by rw [HN.out]; exact hi
    refine ⟨C.getD i 0, ?_, rfl, ?_, ?_, ?_⟩
    · rw [(HBr.out xs wr h).cell (p := ⟨g, i, none⟩) hg]; exact HC.out i hi
    · have := hF.one (C.getD i 0) (by simp [List.getD, hil]); exact this.1
    · have := hF.one (C.getD i 0) (by simp [List.getD, hil]); exact this.2
    · intro h1
      have := List.pairwise_iff_getElem.1 hF.down (i - 1) i (by omega) hil (by omega)
      simpa [List.getD, hil, show i - 1 < C.length by omega] using this
  go_enter Try.func10, Try.ntmps10
  go_wp2
  clear mk'
  go_loopg [5, 6] n (fun k s5 s6 wx => ∃ i : Nat, s5 = .int .i64 i ∧ (i + k ≤ n ∧ n ≤ i + k) ∧ Hid (Row .u64 24 w.heap.size w0 (cntTo C n i) wx))
  case atStart => exact ⟨0, rfl, by omega, HR0⟩
  case round =>
    clear HR0
    obtain ⟨i, rfl, ⟨hi1, hi2⟩, HR⟩ := hrel
    by_cases hin : i < n
    · obtain ⟨c, cc, hce, hc1, hc2, hc3⟩ := HC2.out _ _ HR.out i hin
      have hcn : c < n := by omega
      have cd := HR.out.cell c (by rw [cntTo_length]; exact hcn)
      have fd := HR.out.frozen c
      rw [cntTo_getD C n i c hcn] at cd
      have hcl : (C.take i).count c ≤ i := Nat.le_trans List.count_le_length (List.length_take_le _ _)
      obtain ⟨x, hx⟩ : ∃ x, x = (C.take i).count c := ⟨_, rfl⟩
      rw [← hx] at cd hcl
      have HR2 : Hid (Row .u64 24 w.heap.size w0 (cntTo C n (i + 1)) (wr.setCell ⟨w.heap.size, c, none⟩ (.int .u64 ((x : Int) + 1)))) := by
        have := HR.out.set c (x + 1) ((x : Int) + 1) (by omega)
        rw [hx, cntTo_succ C n i c (by rw [HN.out]; exact hin) hce hcn, ← hx] at this
        exact this
      have HR3 : Hid (∀ q, Row .u64 24 w.heap.size w0 (cntTo C n (i + 1)) ((wr.drewN q).setCell ⟨w.heap.size, c, none⟩ (.int .u64 ((x : Int) + 1)))) := by
        intro q
        have := (HR.out.drewN q).set c (x + 1) ((x : Int) + 1) (by omega)
        rw [hx, cntTo_succ C n i c (by rw [HN.out]; exact hin) hce hcn, ← hx] at this
        exact this
      have hprev : 1 ≤ i → ∃ c', wr.cell? ⟨g, i - 1, none⟩ = some (.int .u32 ((c' : Nat) : Int)) ∧ c ≤ c' ∧ c' ≤ n := by
        intro h1
        obtain ⟨c', cc', hce', _, hc2', _⟩ := HC2.out _ _ HR.out (i - 1) (by omega)
        exact ⟨c', cc', by rw [hce']; exact hc3 h1, by omega⟩
      clear hx HR HR2 hce hc3
      have i1 : (i : Int) < (n : Int) := by omega
      have i2 : (c : Int) < (n : Int) := by omega
      by_cases hi0 : 1 ≤ i
      · obtain ⟨c', cc', hcc, hcn'⟩ := hprev hi0
        have hd1 : (0 : Int) < (i : Int) := by omega
        have hd4 : 0 < i := by omega
        have hd2 : decide ((c' : Int) < (c : Int)) = false := by simp; omega
        have hd3 : decide (c' < c) = false := by simp; omega
        clear hprev
        go_wp2
        go_big_quiet (fail)
        go_wp2
        go_roundg (gk - 1)
        case measure => omega
        case rel => exact ⟨i + 1, by go_num, by omega, HR3.out _⟩
      · have hd1 : decide ((0 : Int) < (i : Int)) = false := by simp; omega
        have hd2 : decide (0 < i) = false := by simp; omega
        clear hprev
        go_wp2
        go_big_quiet (fail)
        go_wp2
        go_roundg (gk - 1)
        case measure => omega
        case rel => exact ⟨i + 1, by go_num, by omega, HR3.out _⟩
    · have HR4 : Hid (∀ d, d < n → wr.cell? ⟨w.heap.size, d, none⟩ = some (.int .u64 ((C.count d : Nat) : Int))) := by
        intro d hd
        have := HR.out.cell d (by rw [cntTo_length]; exact hd)
        rwa [cntTo_getD C n i d hd, List.take_of_length_le (by rw [HN.out]; omega)] at this
      have HB4 : Hid (Below w.heap.size w wr) := HBr.out _ _ HR.out
      have hroot : ((N 0 : Int) == 1) = true := by simp [HF.out.root]
      clear HR HC2 HBr HB0
      go_wp2
      go_loopg [7, 8, 9] (n - 1) (fun k s7 s8 s9 wx => ∃ x : Nat, s7 = .int .u64 x ∧ s8 = .int .i64 k ∧ (k ≤ n - 1 ∧ x ≤ n) ∧ Hid (x = N k) ∧ wx = wr)
      case atStart => exact ⟨0, rfl, by go_num, by omega, HF.out.last.symm, rfl⟩
      case round =>
        obtain ⟨x, rfl, rfl, ⟨hk1, hxn⟩, HX, rfl⟩ := hrel
        by_cases hk : 1 ≤ gk
        · have hp := HF.out.pair gk hk hk1
          have hsm := HF.out.small (gk - 1)
          have hcl : C.count gk ≤ n := by rw [← HN.out]; exact List.count_le_length
          have cd := HR4.out gk (by omega)
          rw [← HX.out] at hp
          obtain ⟨y, hy⟩ : ∃ y, y = C.count gk := ⟨_, rfl⟩
          obtain ⟨z, hz⟩ : ∃ z, z = N (gk - 1) := ⟨_, rfl⟩
          have HZ : Hid (z = N (gk - 1)) := hz
          rw [← hy] at hp cd hcl
          rw [← hz] at hp hsm
          have hp1 : y + x ≤ 2 * z ∧ 2 * z ≤ y + x := by omega
          have ev : (((y : Int) + (x : Int)) % 2 != 0) = false := by simp; omega
          have i1 : (gk : Int) < (n : Int) := by omega
          clear hy hz hp HX
          go_wp2
          go_roundg (gk - 1)
          case measure => omega
          case rel => exact ⟨z, by go_num, by go_num, by omega, HZ, rfl⟩
        · have hk0 : gk = 0 := by omega
          have hx1 : ((x : Int) == 1) = true := by rw [HX.out, hk0]; exact hroot
          clear hk0 hroot HX
          go_wp2
          go_ret
          exact ⟨by simp, HB4.out⟩
end Go.Proofs.Qxb6605568a
