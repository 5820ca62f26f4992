/-
  FnHex4ValueOfFourDigits (function 3): its walks.
-/
import Derived.Test.Qxb6605588aHd
import Derived.Laws.CopyOwn
namespace Go.Proofs.Qxb6605588a
open Go.RowKit
set_option linter.unusedVariables false

theorem hv_long (a : Option Addr) (n cap : Nat) (w : World) (h : 1048576 < n) (hm : n ≤ maxLen) :
    Calls Try.prog 3 #[.slice a n cap] w fun e w' => e = .returned (.bool true) ∧ w' = w := by
  unfold maxLen at hm
  go_enter Try.func3, Try.ntmps3
  go_wp2
  go_ret
  exact ⟨rfl, rfl⟩
theorem hv_short (a : Option Addr) (n cap : Nat) (w : World) (h : n < 4) :
    Calls Try.prog 3 #[.slice a n cap] w fun e w' => e = .returned (.bool true) ∧ w' = w := by
  go_enter Try.func3, Try.ntmps3
  go_wp2
  go_ret
  exact ⟨rfl, rfl⟩
/-- 'make([]byte, n)'. -/
theorem make22 (n : Nat) (hn : n ≤ 2097152) (w : World) : (Instr.makeSlice 22 (.int .i64 (n : Int)) (.int .i64 (n : Int))).run Try.prog w =
    .ok (.slice (some ⟨w.heap.size, 0, none⟩) n n) (w.alloc (.cells (cellsOf .u8 (List.replicate n 0)) 5)) := by
  obtain ⟨i0, hi, hz0, hz1, hz2⟩ := info_parts Try.info5
  have h := run_make (P := Try.prog) w 22 5 i0 (.int .u8 0) Try.underlying22 hi hz0 .i64 .i64 n n (by omega) (by omega) (by rw [hz2]; omega) (by omega)
  rw [h, hz1]
  simp only [Int.toNat_natCast, Nat.mul_one]
  rw [← made_zeros]
  rfl
theorem Try.size5 : (Try.prog.info? 5).map (·.size) = some 1 := by kernel_rfl

theorem want_eq (d0 d1 d2 d3 : Nat) (v : Nat → Nat) (h0 : v 0 = d0) (h1 : v 1 = d1) (h2 : v 2 = d2) (h3 : v 3 = d3) : val v 4 = d0 * 4096 + d1 * 256 + d2 * 16 + d3 := by
  simp only [val, h0, h1, h2, h3]
  omega

set_option maxRecDepth 100000 in
set_option maxHeartbeats 4000000 in
theorem hv_main (b off n cap : Nat) (c : Nat → Nat) (w : World) (hn : 4 ≤ n) (hn' : n ≤ 1048576) (hb : b < w.heap.size) (HB : Hid (∀ i, i < n → c i < 256)) (HC : Hid (∀ i, i < n → w.cell? ⟨b, off + i, none⟩ = some (.int .u8 ((c i : Nat) : Int)))) :
    Calls Try.prog 3 #[.slice (some ⟨b, off, none⟩) n cap] w fun e w' => e = .returned (.bool true) ∧ Below w.heap.size w w' := by
  have q : ∀ (w : World) (a : Option Addr) (n c : Nat), (binOp .neq 22 (.slice a n c) (.slice none 0 0)).run Try.prog w = .ok (.bool (!a.isNone)) w := fun w a n c => run_neq_slice_nil_any w 22 5 a n c 0 0 Try.underlying22
  have mk := make22 n (by omega)
  obtain ⟨H, hH⟩ : ∃ H, H = w.heap.size := ⟨_, rfl⟩
  obtain ⟨W0, hW0⟩ : ∃ W0, W0 = w.alloc (.cells (cellsOf .u8 (List.replicate n 0)) 5) := ⟨_, rfl⟩
  have mk' : (Instr.makeSlice 22 (.int .i64 (n : Int)) (.int .i64 (n : Int))).run Try.prog w = .ok (.slice (some ⟨H, 0, none⟩) n n) W0 := by rw [hW0, hH]; exact mk w
  have g0 : W0.heap[H]? = some (.cells ((List.replicate n (0 : Int)).map (Value.int .u8)).toArray 5 (0, 0)) := by
    rw [hW0, hH]; exact heap_alloc_new w _
  have HB0 : Hid (Below H w W0) := by show Below _ _ _; rw [hW0, hH]; exact (Below.refl _ _).alloc (Nat.le_refl _) _
  rw [← hH] at hb
  have HHW : Hid (H = w.heap.size) := hH
  clear mk hW0 hH
  obtain ⟨cs, hcs⟩ : ∃ cs, cs = (List.range n).map fun i => Value.int .u8 ((c i : Nat) : Int) := ⟨_, rfl⟩
  have hcl : cs.length = n := by rw [hcs]; simp
  have HCS : Hid (∀ j v, cs[j]? = some v → W0.cell? ((⟨b, off, none⟩ : Addr).add j) = some v) := by
    intro j v hj
    have hjn : j < n := by have := (List.getElem?_eq_some_iff.1 hj).1; omega
    rw [Addr.add_lit, HB0.out.cell (p := ⟨b, off + j, none⟩) hb, HC.out j hjn]
    rw [hcs] at hj
    simpa [hjn] using hj
  have HOC : Hid (∀ v ∈ cs, v.oneCell' = true) := by
    intro v hv
    rw [hcs] at hv
    obtain ⟨i, _, rfl⟩ := List.mem_map.1 hv
    rfl
  have HG : Hid (W0.heap[H]? = some (.cells ((List.replicate n (0 : Int)).map (Value.int .u8)).toArray 5 (0, 0))) := g0
  have HCL : Hid (cs.length = n ∧ cs = (List.range n).map fun i => Value.int .u8 ((c i : Nat) : Int)) := ⟨hcl, hcs⟩
  clear hcs hcl g0
  go_enter Try.func3, Try.ntmps3
  go_wp2_with (first | (go_at_call 7; go_in) | (refine wpList_copy_splice (by rfl) (.tmp 27) (.tmp 28) 22 22 (by rfl) 5 Try.underlying22 Try.size5 _ _ n n n cap (by rfl) (by rfl) H 0 _ 5 HG.out cs (by rw [HCL.out.1]; exact (Nat.min_self n).symm) (fun _ => ⟨rfl, _, rfl, HCS.out⟩) (by rw [HCL.out.1]; simp) HOC.out H w HB0.out (Nat.le_refl _) ?_))
  intro w1 h1 hb1
  have HC1 : Hid (∀ i, i < n → w1.cell? ⟨H, i, none⟩ = some (.int .u8 ((c i : Nat) : Int))) := by
    intro i hi
    have e : splice (List.replicate n (Value.int .u8 0)) 0 cs = cs := by simp [splice, HCL.out.1]
    have h := h1.out
    rw [e] at h
    rw [cell_of_row w1 H i _ 5 (0, 0) h, HCL.out.2]
    simp [hi]
  have HB1 : Hid (Below H w w1) := hb1
  clear h1 hb1 HCS HOC HG HCL HB0 mk'
  have c0 := HC1.out 0 (by omega)
  have c1 := HC1.out 1 (by omega)
  have c2 := HC1.out 2 (by omega)
  have c3 := HC1.out 3 (by omega)
  have b0 := HB.out 0 (by omega)
  have b1 := HB.out 1 (by omega)
  have b2 := HB.out 2 (by omega)
  have b3 := HB.out 3 (by omega)
  obtain ⟨x0, hx0⟩ : ∃ x, x = c 0 := ⟨_, rfl⟩
  obtain ⟨x1, hx1⟩ : ∃ x, x = c 1 := ⟨_, rfl⟩
  obtain ⟨x2, hx2⟩ : ∃ x, x = c 2 := ⟨_, rfl⟩
  obtain ⟨x3, hx3⟩ : ∃ x, x = c 3 := ⟨_, rfl⟩
  rw [← hx0] at c0 b0
  rw [← hx1] at c1 b1
  rw [← hx2] at c2 b2
  rw [← hx3] at c3 b3
  have HX : Hid (x0 = c 0 ∧ x1 = c 1 ∧ x2 = c 2 ∧ x3 = c 3) := ⟨hx0, hx1, hx2, hx3⟩
  clear hx0 hx1 hx2 hx3
  have i0 : (0 : Int) < (n : Int) := by omega
  have i1 : (1 : Int) < (n : Int) := by omega
  have i2 : (2 : Int) < (n : Int) := by omega
  have i3 : (3 : Int) < (n : Int) := by omega
  go_wp2_with fail
  refine (hd_any x0 _ b0).mono ?_
  rintro e w2 ⟨d0, k0, rfl, l0, D0, rfl⟩
  have E0 : Hid (k0 = true → Dig x0 d0) := D0
  clear D0
  go_wp2_with fail
  refine (hd_any x1 _ b1).mono ?_
  rintro e w3 ⟨d1, k1, rfl, l1, D1, rfl⟩
  have E1 : Hid (k1 = true → Dig x1 d1) := D1
  clear D1
  go_wp2_with fail
  refine (hd_any x2 _ b2).mono ?_
  rintro e w4 ⟨d2, k2, rfl, l2, D2, rfl⟩
  have E2 : Hid (k2 = true → Dig x2 d2) := D2
  clear D2
  go_wp2_with fail
  refine (hd_any x3 _ b3).mono ?_
  rintro e w5 ⟨d3, k3, rfl, l3, D3, rfl⟩
  have E3 : Hid (k3 = true → Dig x3 d3) := D3
  clear D3 c0 c1 c2 c3
  cases k0
  · go_wp2
    go_ret
    exact ⟨rfl, by rw [← HHW.out]; exact HB1.out⟩
  cases k1
  · go_wp2
    go_ret
    exact ⟨rfl, by rw [← HHW.out]; exact HB1.out⟩
  cases k2
  · go_wp2
    go_ret
    exact ⟨rfl, by rw [← HHW.out]; exact HB1.out⟩
  cases k3
  · go_wp2
    go_ret
    exact ⟨rfl, by rw [← HHW.out]; exact HB1.out⟩
  obtain ⟨v, hv0, hv1, hv2, hv3⟩ : ∃ v : Nat → Nat, v 0 = d0 ∧ v 1 = d1 ∧ v 2 = d2 ∧ v 3 = d3 := ⟨fun i => if i = 0 then d0 else if i = 1 then d1 else if i = 2 then d2 else d3, rfl, rfl, rfl, rfl⟩
  have HD : Hid (∀ i, i < 4 → Dig (c i) (v i)) := by
    obtain ⟨a0, a1, a2, a3⟩ := HX.out
    intro i hi
    match i, hi with
    | 0, _ => rw [hv0, ← a0]; exact E0.out rfl
    | 1, _ => rw [hv1, ← a1]; exact E1.out rfl
    | 2, _ => rw [hv2, ← a2]; exact E2.out rfl
    | 3, _ => rw [hv3, ← a3]; exact E3.out rfl
  have hval := want_eq d0 d1 d2 d3 v hv0 hv1 hv2 hv3
  have HC4 : Hid (∀ i, i < 4 → w5.cell? ⟨H, i, none⟩ = some (.int .u8 ((c i : Nat) : Int))) := fun i hi => HC1.out i (by omega)
  have HV : Hid (val v 4 = d0 * 4096 + d1 * 256 + d2 * 16 + d3) := hval
  clear hval hv0 hv1 hv2 hv3 E0 E1 E2 E3
  go_wp2_with fail
  refine (zzhex4_any H n n c v _ hn (Nat.le_refl _) (by unfold maxLen; omega) HC4 HD).mono ?_
  rw [HV.out]
  rintro e w6 ⟨rfl, rfl⟩
  go_wp2
  go_ret
  exact ⟨by simp, by rw [← HHW.out]; exact HB1.out⟩
end Go.Proofs.Qxb6605588a
