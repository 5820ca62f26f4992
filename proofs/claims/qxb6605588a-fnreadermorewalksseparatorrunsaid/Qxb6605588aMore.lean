/-
  more (function 18), ZZReaderMore (function 14).
-/
import Derived.Test.Qxb6605588aReader
namespace Go.Proofs.Qxb6605588a
open Go.RowKit
set_option linter.unusedVariables false

/-- What 'more' answers, from i, for the closer x: b, and the reader stands at m. -/
def MoreSpec (c : Nat → Nat) (n x i : Nat) (b : Bool) (m : Nat) : Prop :=
  ∃ j, SE c n i j ∧ j < n ∧ ((c j = x ∧ b = false ∧ m = j + 1) ∨ (c j ≠ x ∧ c j = 44 ∧ b = true ∧ SE c n (j + 1) m) ∨ (c j ≠ x ∧ c j ≠ 44 ∧ b = true ∧ m = j))

theorem RW.drewN {R g n cap i : Nat} {w0 wr : World} (h : RW R g n cap i w0 wr) (k : Nat) : RW R g n cap i w0 (wr.drewN k) :=
  ⟨by simpa [go_sem] using h.c0, by simpa [go_sem] using h.c1, by simpa [go_sem] using h.f1, h.os, h.tape, h.output, h.size, h.block⟩
theorem RW.self {R g n cap i : Nat} {w0 wr : World} (h : RW R g n cap i w0 wr) : RW R g n cap i wr wr :=
  ⟨h.c0, h.c1, h.f1, rfl, rfl, rfl, rfl, fun _ _ => rfl⟩

set_option maxRecDepth 100000 in
set_option maxHeartbeats 4000000 in
theorem more_any (R g n cap i x : Nat) (c : Nat → Nat) (w : World) (hi : i ≤ n) (hn : n ≤ 1048576) (hx : x < 256) (h : RW R g n cap i w w) (hg : g ≠ R)
    (HJ : Hid (∀ j, SE c n i j → j < n)) (HC : Hid (∀ t, t < n → w.cell? ⟨g, t, none⟩ = some (.int .u8 ((c t : Nat) : Int)))) :
    Calls Try.prog 18 #[.pointer (some ⟨R, 0, none⟩), .int .u8 (x : Int)] w fun e w' => ∃ b m, e = .returned (.bool b) ∧ MoreSpec c n x i b m ∧ RW R g n cap m w w' := by
  go_enter Try.func18, Try.ntmps18
  go_wp2_with fail
  refine (skip_any R g n cap i c w hi hn h HC).mono ?_
  rintro e w1 ⟨rfl, j, hse, hrw⟩
  have hj := HJ.out j hse
  have ji : (j : Int) < (n : Int) := by omega
  have HR : Hid (RW R g n cap j w w1) := hrw
  have HS : Hid (SE c n i j) := hse
  have c0 := hrw.c0
  have c1 := hrw.c1
  have f1 := hrw.f1
  have cj : w1.cell? ⟨g, j, none⟩ = some (.int .u8 ((c j : Nat) : Int)) := by rw [hrw.cell hg]; exact HC.out j hj
  obtain ⟨y, hy⟩ : ∃ y, y = c j := ⟨_, rfl⟩
  rw [← hy] at cj
  have HY : Hid (y = c j) := hy
  have HC1 : Hid (∀ t, t < n → w1.cell? ⟨g, t, none⟩ = some (.int .u8 ((c t : Nat) : Int))) := fun t ht => by rw [hrw.cell hg]; exact HC.out t ht
  have HW : Hid (RW R g n cap i w w) := h
  clear hse hrw hy h
  by_cases hyx : y = x
  · subst hyx
    go_wp2_with fail
    go_big_quiet (fail)
    go_wp2
    go_ret
    exact ⟨false, j + 1, rfl, ⟨j, HS.out, hj, .inl ⟨HY.out.symm, rfl, rfl⟩⟩, (HR.out.drewN _).set (j + 1)⟩
  · have ex : ((y : Int) == (x : Int)) = false := by simp; omega
    by_cases h44 : y = 44
    · have e4 : ((y : Int) == 44) = true := by simp; omega
      have HK : Hid (y ≠ x ∧ y = 44) := ⟨hyx, h44⟩
      clear hyx h44
      go_wp2_with fail
      go_big_quiet (fail)
      go_wp2_with fail
      have hr : RW R g n cap (j + 1) w ((w1.drewN nq).setCell ⟨R, 1, none⟩ (.int .i64 ((j : Int) + 1))) := (HR.out.drewN nq).set (j + 1)
      have HC2 : Hid (∀ t, t < n → ((w1.drewN nq).setCell ⟨R, 1, none⟩ (.int .i64 ((j : Int) + 1))).cell? ⟨g, t, none⟩ = some (.int .u8 ((c t : Nat) : Int))) := fun t ht => by rw [hr.cell hg]; exact HC.out t ht
      have HR2 : Hid (RW R g n cap (j + 1) w ((w1.drewN nq).setCell ⟨R, 1, none⟩ (.int .i64 ((j : Int) + 1)))) := hr
      refine (skip_any R g n cap (j + 1) c _ (by omega) hn hr.self HC2).mono ?_
      clear hr
      rintro e w2 ⟨rfl, m, hm, hrm⟩
      have HM : Hid (SE c n (j + 1) m) := hm
      have HRM : Hid (RW R g n cap m w w2) := HR2.out.trans hrm
      clear hm hrm HR2 HC2
      go_wp2
      go_ret
      exact ⟨true, m, rfl, ⟨j, HS.out, hj, .inr (.inl ⟨by rw [← HY.out]; exact HK.out.1, by rw [← HY.out]; exact HK.out.2, rfl, HM.out⟩)⟩, HRM.out⟩
    · have e4 : ((y : Int) == 44) = false := by simp; omega
      have HK : Hid (y ≠ x ∧ y ≠ 44) := ⟨hyx, h44⟩
      clear hyx h44
      go_wp2_with fail
      go_big_quiet (fail)
      go_wp2
      go_ret
      exact ⟨true, j, rfl, ⟨j, HS.out, hj, .inr (.inr ⟨by rw [← HY.out]; exact HK.out.1, by rw [← HY.out]; exact HK.out.2, rfl, rfl⟩)⟩, HR.out.drewN _⟩
end Go.Proofs.Qxb6605588a
