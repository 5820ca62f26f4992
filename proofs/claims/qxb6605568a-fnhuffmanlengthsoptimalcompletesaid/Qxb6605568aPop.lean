/-
  heapPop (function 20), walked.
-/
import Derived.Test.Qxb6605568aPush
namespace Go.Proofs.Qxb6605568a
open Go.RowKit
set_option linter.unusedVariables false

theorem HAt.cut {B H m cap : Nat} {hs : List Nat} {w0 wr : World} (h : HAt B H (m + 1) cap hs w0 wr) : HAt B H m cap (hs.take m) w0 wr := by
  refine ⟨⟨by have := h.len; simp [nats]; omega, ?_⟩, h.kept⟩
  rcases h.own.2 with ⟨h', _⟩ | ⟨g, cap', cur, h', hb, hg, hnc, hcm, hcs, htake⟩
  · simp at h'
  · simp only [Value.slice.injEq, Option.some.injEq, Addr.mk.injEq, and_true, true_and] at h'
    obtain ⟨rfl, rfl⟩ := h'
    refine .inr ⟨H, cap, cur, rfl, hb, hg, by omega, hcm, hcs, ?_⟩
    have := congrArg (List.take m) htake
    rw [List.take_take] at this
    simpa [nats, List.map_take, Nat.min_eq_left] using this

/-- What is known of the least child. -/
theorem child_min {hx : List Nat} {i m mm : Nat} (hl : hx.length = m) (h : (mm = 2 * i + 1 + 1 ∧ 2 * i + 1 + 1 < m ∧ hx.getD (2 * i + 1 + 1) 0 < hx.getD (2 * i + 1) 0) ∨ (mm = 2 * i + 1 ∧ 2 * i + 1 < m ∧ (2 * i + 1 + 1 < m → ¬ hx.getD (2 * i + 1 + 1) 0 < hx.getD (2 * i + 1) 0))) :
    0 < mm ∧ mm < hx.length ∧ (mm - 1) / 2 = i ∧ ∀ j, 0 < j → j < hx.length → (j - 1) / 2 = i → hx.getD mm 0 ≤ hx.getD j 0 := by
  rcases h with ⟨rfl, h1, h2⟩ | ⟨rfl, h1, h2⟩
  · refine ⟨by omega, by omega, by omega, ?_⟩
    intro j h3 h4 h5
    have : j = 2 * i + 1 ∨ j = 2 * i + 1 + 1 := by omega
    rcases this with rfl | rfl <;> omega
  · refine ⟨by omega, by omega, by omega, ?_⟩
    intro j h3 h4 h5
    have : j = 2 * i + 1 ∨ j = 2 * i + 1 + 1 := by omega
    rcases this with rfl | rfl
    · omega
    · have := h2 (by omega); omega

set_option maxRecDepth 100000 in
set_option maxHeartbeats 4000000 in
theorem pop_any (B H m cap : Nat) (hs : List Nat) (w : World) (HA : Hid (HAt B H (m + 1) cap hs w w)) (HH : Hid (Huff.Heap hs)) (hn : m + 1 ≤ cap) (hc : cap ≤ 65536) (hB : B ≤ H) :
    Calls Try.prog 20 #[.slice (some ⟨H, 0, none⟩) (m + 1) cap] w fun e w' => e = .returned (.tuple #[.int .u64 ((hs.getD 0 0 : Nat) : Int), .slice (some ⟨H, 0, none⟩) m cap]) ∧ ∃ hs', HAt B H m cap hs' w w' ∧ Huff.Heap hs' ∧ hs'.Perm (Huff.cutTop hs) := by
  have hl := HA.out.len
  have c0 := HA.out.cell 0 (by omega)
  have cm := HA.out.cell m (by omega)
  have f0 := HA.out.frozen 0
  obtain ⟨x0, hx0⟩ : ∃ x0, x0 = hs.getD 0 0 := ⟨_, rfl⟩
  obtain ⟨xm, hxm⟩ : ∃ xm, xm = hs.getD m 0 := ⟨_, rfl⟩
  rw [← hx0] at c0 ⊢
  rw [← hxm] at cm
  have HA1 : Hid (HAt B H m cap (Huff.cutTop hs) w (w.setCell ⟨H, 0, none⟩ (.int .u64 (xm : Int)))) := by
    have := (HA.out.set 0 xm xm rfl).cut
    rw [hxm] at this ⊢
    have e : Huff.cutTop hs = (hs.set 0 (hs.getD m 0)).take m := by
      rw [Huff.cutTop, hl, Nat.add_sub_cancel]
    show HAt _ _ _ _ _ _ _
    rw [e]
    exact this
  have HP1 : Hid (Huff.Dn (Huff.cutTop hs) 0) := Huff.dn_start HH.out
  clear HA HH hl hx0 hxm
  have j0 : (0 : Int) < (m : Int) + 1 := by omega
  have j1 : (m : Int) < (m : Int) + 1 := by omega
  have j2 : (m : Int) ≤ (cap : Int) := by omega
  go_enter Try.func20, Try.ntmps20
  go_wp2
  clear c0 cm f0
  go_loopg [6, 7, 8, 9] m (fun k s6 s7 s8 s9 wx => ∃ i : Nat, s6 = .int .i64 i ∧ (i ≤ m ∧ k = m - i) ∧ ∃ hx, Hid (HAt B H m cap hx w wx) ∧ Hid (Huff.Dn hx i ∧ hx.Perm (Huff.cutTop hs)))
  case atStart => exact ⟨0, rfl, by omega, _, HA1, HP1.out, List.Perm.refl _⟩
  case round =>
    clear HA1 HP1
    obtain ⟨i, rfl, ⟨hi, hgk⟩, hx, HA, HP⟩ := hrel
    have HK : Hid (gk = m - i) := hgk
    have hxl := HA.out.len
    clear hgk
    by_cases hin : 2 * i + 1 < m
    · have ca := HA.out.cell (2 * i + 1) hin
      have cx := HA.out.cell i (by omega)
      have fx := HA.out.frozen i
      obtain ⟨x, hxe⟩ : ∃ x, x = hx.getD i 0 := ⟨_, rfl⟩
      obtain ⟨a, hae⟩ : ∃ a, a = hx.getD (2 * i + 1) 0 := ⟨_, rfl⟩
      obtain ⟨b, hbe⟩ : ∃ b, b = hx.getD (2 * i + 1 + 1) 0 := ⟨_, rfl⟩
      have cb : 2 * i + 1 + 1 < m → wr.cell? ⟨H, 2 * i + 1 + 1, none⟩ = some (.int .u64 (b : Int)) := fun h => by rw [hbe]; exact HA.out.cell _ h
      have k1 : (2 : Int) * (i : Int) + 1 < (m : Int) := by omega
      have k2 : (i : Int) < (m : Int) := by omega
      have hcase : (2 * i + 1 + 1 < m ∧ b < a) ∨ (2 * i + 1 + 1 < m ∧ ¬ b < a) ∨ ¬ 2 * i + 1 + 1 < m := by omega
      rw [← hae] at ca
      rw [← hxe] at cx
      rcases hcase with ⟨q1, q2⟩ | ⟨q1, q2⟩ | q1
      · have cb := cb q1
        have r1 : (2 : Int) * (i : Int) + 1 + 1 < (m : Int) := by omega
        have r2 : (b : Int) < (a : Int) := by omega
        have HM := child_min (mm := 2 * i + 1 + 1) hxl (.inl ⟨rfl, q1, by rw [← hae, ← hbe]; exact q2⟩)
        have fz := HA.out.frozen (2 * i + 1 + 1)
        have HS : Hid (∀ q, HAt B H m cap (Huff.swp hx i (2 * i + 1 + 1)) w (((wr.drewN q).setCell ⟨H, i, none⟩ (.int .u64 (b : Int))).setCell ⟨H, 2 * i + 1 + 1, none⟩ (.int .u64 (x : Int)))) := fun q => by
          have := HA.out.swap i (2 * i + 1 + 1) q
          rw [← hbe, ← hxe] at this
          exact this
        by_cases hxz : x ≤ b
        · have hc1 : (x : Int) ≤ (b : Int) := by omega
          have HE : Hid (Huff.Heap hx) := Huff.dn_done HP.out.1 (fun j h1 h2 h3 => by have := HM.2.2.2 j h1 h2 h3; rw [← hbe] at this; rw [← hxe]; omega)
          have HP2 : Hid (hx.Perm (Huff.cutTop hs)) := HP.out.2
          clear HP HS HM hxe hae hbe hxl
          go_wp2
          go_big_quiet (fail)
          go_wp2
          go_big_quiet (fail)
          go_wp2
          go_ret2
          exact ⟨rfl, hx, (HA.out.drewN _).drewN _, HE.out, HP2.out⟩
        · have hc1 : decide ((x : Int) ≤ (b : Int)) = false := by simp; omega
          have hc2 : decide (x ≤ b) = false := by simp; omega
          have HP3 : Hid (Huff.Dn (Huff.swp hx i (2 * i + 1 + 1)) (2 * i + 1 + 1) ∧ (Huff.swp hx i (2 * i + 1 + 1)).Perm (Huff.cutTop hs)) := by
            refine ⟨Huff.dn_swap HP.out.1 HM.1 HM.2.1 HM.2.2.1 (by rw [← hbe, ← hxe]; omega) HM.2.2.2, ?_⟩
            exact (Huff.swp_perm hx i (2 * i + 1 + 1) (by omega) HM.2.1 (by omega)).trans HP.out.2
          clear HP HM hxe hae hbe hxl HA
          go_wp2
          go_big_quiet (fail)
          go_wp2
          go_big_quiet (fail)
          go_wp2
          go_roundg (m - (2 * i + 1 + 1))
          case measure => have := HK.out; omega
          case rel => exact ⟨2 * i + 1 + 1, by go_num, by omega, _, HS.out _, HP3⟩
      · have cb := cb q1
        have r1 : (2 : Int) * (i : Int) + 1 + 1 < (m : Int) := by omega
        have r2 : decide ((b : Int) < (a : Int)) = false := by simp; omega
        have r3 : decide (b < a) = false := by simp; omega
        have HM := child_min (mm := 2 * i + 1) hxl (.inr ⟨rfl, hin, fun _ => by rw [← hae, ← hbe]; exact q2⟩)
        have fz := HA.out.frozen (2 * i + 1)
        have HS : Hid (∀ q, HAt B H m cap (Huff.swp hx i (2 * i + 1)) w (((wr.drewN q).setCell ⟨H, i, none⟩ (.int .u64 (a : Int))).setCell ⟨H, 2 * i + 1, none⟩ (.int .u64 (x : Int)))) := fun q => by
          have := HA.out.swap i (2 * i + 1) q
          rw [← hae, ← hxe] at this
          exact this
        by_cases hxz : x ≤ a
        · have hc1 : (x : Int) ≤ (a : Int) := by omega
          have HE : Hid (Huff.Heap hx) := Huff.dn_done HP.out.1 (fun j h1 h2 h3 => by have := HM.2.2.2 j h1 h2 h3; rw [← hae] at this; rw [← hxe]; omega)
          have HP2 : Hid (hx.Perm (Huff.cutTop hs)) := HP.out.2
          clear HP HS HM hxe hae hbe hxl
          go_wp2
          go_big_quiet (fail)
          go_wp2
          go_big_quiet (fail)
          go_wp2
          go_ret2
          exact ⟨rfl, hx, (HA.out.drewN _).drewN _, HE.out, HP2.out⟩
        · have hc1 : decide ((x : Int) ≤ (a : Int)) = false := by simp; omega
          have hc2 : decide (x ≤ a) = false := by simp; omega
          have HP3 : Hid (Huff.Dn (Huff.swp hx i (2 * i + 1)) (2 * i + 1) ∧ (Huff.swp hx i (2 * i + 1)).Perm (Huff.cutTop hs)) := by
            refine ⟨Huff.dn_swap HP.out.1 HM.1 HM.2.1 HM.2.2.1 (by rw [← hae, ← hxe]; omega) HM.2.2.2, ?_⟩
            exact (Huff.swp_perm hx i (2 * i + 1) (by omega) HM.2.1 (by omega)).trans HP.out.2
          clear HP HM hxe hae hbe hxl HA
          go_wp2
          go_big_quiet (fail)
          go_wp2
          go_big_quiet (fail)
          go_wp2
          go_roundg (m - (2 * i + 1))
          case measure => have := HK.out; omega
          case rel => exact ⟨2 * i + 1, by go_num, by omega, _, HS.out _, HP3⟩
      · clear cb
        have r1 : decide ((2 : Int) * (i : Int) + 1 + 1 < (m : Int)) = false := by simp; omega
        have r3 : decide (2 * i + 1 + 1 < m) = false := by simp; omega
        have HM := child_min (mm := 2 * i + 1) hxl (.inr ⟨rfl, hin, fun h => absurd h q1⟩)
        have fz := HA.out.frozen (2 * i + 1)
        have HS : Hid (∀ q, HAt B H m cap (Huff.swp hx i (2 * i + 1)) w (((wr.drewN q).setCell ⟨H, i, none⟩ (.int .u64 (a : Int))).setCell ⟨H, 2 * i + 1, none⟩ (.int .u64 (x : Int)))) := fun q => by
          have := HA.out.swap i (2 * i + 1) q
          rw [← hae, ← hxe] at this
          exact this
        by_cases hxz : x ≤ a
        · have hc1 : (x : Int) ≤ (a : Int) := by omega
          have HE : Hid (Huff.Heap hx) := Huff.dn_done HP.out.1 (fun j h1 h2 h3 => by have := HM.2.2.2 j h1 h2 h3; rw [← hae] at this; rw [← hxe]; omega)
          have HP2 : Hid (hx.Perm (Huff.cutTop hs)) := HP.out.2
          clear HP HS HM hxe hae hbe hxl
          go_wp2
          go_big_quiet (fail)
          go_wp2
          go_big_quiet (fail)
          go_wp2
          go_ret2
          exact ⟨rfl, hx, (HA.out.drewN _).drewN _, HE.out, HP2.out⟩
        · have hc1 : decide ((x : Int) ≤ (a : Int)) = false := by simp; omega
          have hc2 : decide (x ≤ a) = false := by simp; omega
          have HP3 : Hid (Huff.Dn (Huff.swp hx i (2 * i + 1)) (2 * i + 1) ∧ (Huff.swp hx i (2 * i + 1)).Perm (Huff.cutTop hs)) := by
            refine ⟨Huff.dn_swap HP.out.1 HM.1 HM.2.1 HM.2.2.1 (by rw [← hae, ← hxe]; omega) HM.2.2.2, ?_⟩
            exact (Huff.swp_perm hx i (2 * i + 1) (by omega) HM.2.1 (by omega)).trans HP.out.2
          clear HP HM hxe hae hbe hxl HA
          go_wp2
          go_big_quiet (fail)
          go_wp2
          go_big_quiet (fail)
          go_wp2
          go_roundg (m - (2 * i + 1))
          case measure => have := HK.out; omega
          case rel => exact ⟨2 * i + 1, by go_num, by omega, _, HS.out _, HP3⟩
    · have HE : Hid (Huff.Heap hx) := Huff.dn_done HP.out.1 (fun j h1 h2 h3 => by omega)
      have HP2 : Hid (hx.Perm (Huff.cutTop hs)) := HP.out.2
      clear HP hxl
      go_wp2
      go_ret2
      exact ⟨rfl, hx, HA.out, HE.out, HP2.out⟩
end Go.Proofs.Qxb6605568a
