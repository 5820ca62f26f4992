/-
  huffmanLengths (function 18), walked: its three passes.
-/
import Derived.Test.Qxb6605568aHl2
import Derived.Deep.LoopGhost
import Derived.Deep.DeepCutAuto
import Derived.Deep.CutBlock
namespace Go.Proofs.Qxb6605568a
open Go.RowKit
set_option linter.unusedVariables false

set_option maxRecDepth 100000 in
set_option maxHeartbeats 4000000 in
theorem hl_any (g cap n : Nat) (ws : List Nat) (w : World) (HN : Hid (ws.length = n)) (hn : 2 ≤ n) (hn' : n ≤ 65536) (hs : ws.sum < 4294967296) (HR : Hid (Row .u32 25 g w ws w)) :
    Calls Try.prog 18 #[.slice (some ⟨g, 0, none⟩) n cap] w fun e w' => e = .returned (.tuple #[]) ∧ Row .u32 25 g w (Huff.hl ws) w' := by
  have HW : Hid (2 ≤ ws.length) := by have := HN.out; show 2 ≤ ws.length; omega
  obtain ⟨a0, ha0⟩ : ∃ a0, ws.getD 0 0 = a0 := ⟨_, rfl⟩
  obtain ⟨a1, ha1⟩ : ∃ a1, ws.getD 1 0 = a1 := ⟨_, rfl⟩
  have hsum : a0 + a1 < 4294967296 := by
    have h0 := Huff.sum_drop ws 0 (by have := HW.out; omega)
    have h1 := Huff.sum_drop ws 1 (by have := HW.out; omega)
    simp only [List.drop_zero, Nat.zero_add] at h0
    omega
  have c0 : w.cell? ⟨g, 0, none⟩ = some (.int .u32 a0) := by rw [← ha0]; exact HR.out.cell 0 (by have := HW.out; omega)
  have c1 : w.cell? ⟨g, 1, none⟩ = some (.int .u32 a1) := by rw [← ha1]; exact HR.out.cell 1 (by have := HW.out; omega)
  have f0 : w.frozen? ⟨g, 0, none⟩ = false := HR.out.frozen 0
  have hn0 : (0 : Int) < (n : Int) := by omega
  have hn1 : (1 : Int) < (n : Int) := by omega
  have HA : Hid (Row .u32 25 g w (Huff.arr ws [] [a0 + a1] 1) (w.setCell ⟨g, 0, none⟩ (.int .u32 ((a0 : Int) + a1))).drew) := by
    have h := (HR.out.set 0 (a0 + a1) ((a0 : Int) + a1) (by omega)).drew
    rw [← ha0, ← ha1, Huff.arr_start ws HW.out, ha0, ha1] at h
    exact h
  have HL : Hid (L1 ws g w 0 2 1 (w.setCell ⟨g, 0, none⟩ (.int .u32 ((a0 : Int) + a1))).drew) :=
    ⟨0, _, rfl, rfl, by have := HW.out; omega, rfl, rfl, Huff.inv_sim ws HW.out 0 (by have := HW.out; omega), by
      have h := HA.out
      rw [← ha0, ← ha1] at h ⊢
      exact h⟩
  clear ha0 ha1 HA HR
  go_enter Try.func18, Try.ntmps18
  go_wp2
  go_region
  go_wp2
  clear c0 c1 f0 hsum
  go_loopg [3, 4, 5] (n - 1) (fun k root leaf next wr => ∃ p lf t : Nat, root = .int .i64 p ∧ leaf = .int .i64 lf ∧ next = .int .i64 t ∧ (1 ≤ t ∧ t + 1 ≤ n ∧ k = n - t) ∧ Hid (L1 ws g w p lf t wr))
  case atStart => exact ⟨0, 2, 1, rfl, rfl, rfl, by omega, HL⟩
  case round =>
    clear HL
    obtain ⟨p, lf, t, rfl, rfl, rfl, ⟨ht1, ht2, hgk⟩, HL⟩ := hrel
    obtain ⟨x, y, hy, hp, hl, hln, hx, hy2, hxy, cp, cl, ct, fz, T1, T2⟩ := HL.out.facts hs
    rw [HN.out] at hln hxy cl ct T1 T2
    have HK : Hid (gk = n - t) := hgk
    clear hy hgk
    by_cases htn : t + 1 < n
    · obtain ⟨z, ct⟩ := ct (by omega)
      have ft := fz t
      have fp := fz p
      have HT1 : Hid (∀ q, (n ≤ lf ∨ x < y) → L1m ws g w (p + 1) lf t x (((wr.drewN q).setCell ⟨g, t, none⟩ (.int .u32 (x : Int))).setCell ⟨g, p, none⟩ (.int .u32 (t : Int)))) := fun q => T1 q htn
      have HT2 : Hid (∀ q, ¬ (n ≤ lf ∨ x < y) → L1m ws g w p (lf + 1) t y ((wr.drewN q).setCell ⟨g, t, none⟩ (.int .u32 (y : Int)))) := fun q => T2 q htn
      clear T1 T2 fz HL
      have b1 : (p : Int) < (n : Int) := by omega
      have b2 : (t : Int) < (n : Int) := by omega
      have b3 : (lf : Int) ≤ (n : Int) := by omega
      go_wp2
      go_cut [40] (fun s40 wx => (∃ b : Bool, s40 = .bool b ∧ Hid (b = true ↔ (n ≤ lf ∨ x < y))) ∧ ∃ q, wx = wr.drewN q)
      case first =>
        have hcase : n ≤ lf ∨ (lf < n ∧ x < y) ∨ (lf < n ∧ ¬ x < y) := by omega
        rcases hcase with hc1 | ⟨hc1, hc2⟩ | ⟨hc1, hc2⟩
        · clear cl hxy
          have hd1 : (n : Int) ≤ (lf : Int) := by omega
          go_big_quiet (fail)
          go_wp2
          go_meet
          exact ⟨⟨true, rfl, by show _ ↔ _; simp [hc1]⟩, _, rfl⟩
        · have cl := cl (by omega)
          have hd1 : decide ((n : Int) ≤ (lf : Int)) = false := by simp; omega
          have hd3 : decide (n ≤ lf) = false := by simp; omega
          have b4 : (lf : Int) < (n : Int) := by omega
          have hc2' : (x : Int) < (y : Int) := by omega
          go_big_quiet (fail)
          go_wp2
          go_meet
          exact ⟨⟨true, rfl, by show _ ↔ _; simp [hc2]⟩, _, rfl⟩
        · have cl := cl (by omega)
          have hd1 : decide ((n : Int) ≤ (lf : Int)) = false := by simp; omega
          have hd3 : decide (n ≤ lf) = false := by simp; omega
          have b4 : (lf : Int) < (n : Int) := by omega
          have hc2' : decide ((x : Int) < (y : Int)) = false := by simp; omega
          have hc3 : decide (x < y) = false := by simp; omega
          go_big_quiet (fail)
          go_wp2
          go_meet
          exact ⟨⟨_, rfl, by show _ ↔ _; simp; omega⟩, _, rfl⟩
      case rest =>
        obtain ⟨⟨b, rfl, HB⟩, q, rfl⟩ := hcut
        go_upto_if 40 with fail
        go_cut [3, 4] (fun s3 s4 wx => ∃ p1 l1 x1 : Nat, s3 = .int .i64 p1 ∧ s4 = .int .i64 l1 ∧ Hid (L1m ws g w p1 l1 t x1 wx))
        case first =>
          cases b
          · have hno := HB.out
            have cl := cl (by simp at hno; omega)
            have b4 : (lf : Int) < (n : Int) := by simp at hno; omega
            have HM : Hid _ := HT2.out q (by simp at hno; omega)
            clear hno
            go_wp2
            go_meet
            exact ⟨p, lf + 1, y, rfl, by go_num, HM⟩
          · have HM : Hid _ := HT1.out q (HB.out.1 rfl)
            go_wp2
            go_meet
            exact ⟨p + 1, lf, x, by go_num, rfl, HM⟩
        case rest =>
          obtain ⟨p1, l1, x1, rfl, rfl, HM⟩ := hcut
          clear HT1 HT2 HB ct ft fp cp cl hxy hp hl hln hx hy2 b1 b3
          obtain ⟨xx, yy, hyy, hp', hl', hln', hpn, hv, hx', hy', hvx, hvy, cp, cl, ct, fz, T1, T2⟩ := HM.out.facts hs
          rw [HN.out] at hln' hpn hvy cl T1 T2
          have ft := fz t
          have fp := fz p1
          have hcase : (n ≤ l1 ∧ p1 < t) ∨ (l1 < n ∧ p1 < t ∧ xx < yy) ∨ (l1 < n ∧ p1 < t ∧ ¬ xx < yy) ∨ (l1 < n ∧ p1 = t) := by omega
          have HT1 : Hid ((n ≤ l1 ∨ (p1 < t ∧ xx < yy)) → ∀ q, L1 ws g w (p1 + 1) l1 (t + 1) _) := fun h q => T1 q h
          have HT2 : Hid (¬ (n ≤ l1 ∨ (p1 < t ∧ xx < yy)) → ∀ q, L1 ws g w p1 (l1 + 1) (t + 1) _) := fun h q => T2 q h
          clear hyy T1 T2 HM fz
          rcases hcase with ⟨k1, k2⟩ | ⟨k1, k2, k3⟩ | ⟨k1, k2, k3⟩ | ⟨k1, k2⟩
          · have cp := cp k2
            have hvx := hvx k2
            clear cl hvy
            have hd1 : (n : Int) ≤ (l1 : Int) := by omega
            have b5 : (p1 : Int) < (n : Int) := by omega
            go_wp2
            go_big_quiet (fail)
            go_wp2
            go_region
            go_wp2
            go_roundg (n - (t + 1))
            case measure => have := HK.out; omega
            case rel => exact ⟨p1 + 1, l1, t + 1, by go_num, rfl, by go_num, by omega, HT1.out (by omega) _⟩
          · have cp := cp k2
            have hvx := hvx k2
            have cl := cl k1
            have hvy := hvy k1
            have hd1 : decide ((n : Int) ≤ (l1 : Int)) = false := by simp; omega
            have hd3 : decide (n ≤ l1) = false := by simp; omega
            have hd2 : (p1 : Int) < (t : Int) := by omega
            have b4 : (l1 : Int) < (n : Int) := by omega
            have b5 : (p1 : Int) < (n : Int) := by omega
            have hc2' : (xx : Int) < (yy : Int) := by omega
            go_wp2
            go_big_quiet (fail)
            go_wp2
            go_region
            go_wp2
            go_roundg (n - (t + 1))
            case measure => have := HK.out; omega
            case rel => exact ⟨p1 + 1, l1, t + 1, by go_num, rfl, by go_num, by omega, HT1.out (by omega) _⟩
          · have cp := cp k2
            have hvx := hvx k2
            have cl := cl k1
            have hvy := hvy k1
            have hd1 : decide ((n : Int) ≤ (l1 : Int)) = false := by simp; omega
            have hd3 : decide (n ≤ l1) = false := by simp; omega
            have hd2 : (p1 : Int) < (t : Int) := by omega
            have b4 : (l1 : Int) < (n : Int) := by omega
            have b5 : (p1 : Int) < (n : Int) := by omega
            have hc2' : decide ((xx : Int) < (yy : Int)) = false := by simp; omega
            have hc3 : decide (xx < yy) = false := by simp; omega
            go_wp2
            go_big_quiet (fail)
            go_wp2
            go_region
            go_wp2
            go_roundg (n - (t + 1))
            case measure => have := HK.out; omega
            case rel => exact ⟨p1, l1 + 1, t + 1, rfl, by go_num, by go_num, by omega, HT2.out (by omega) _⟩
          · have cl := cl k1
            have hvy := hvy k1
            have HM2 : Hid _ := HT2.out (by omega)
            clear cp hvx HT1 HT2 fp
            subst k2
            have hd1 : decide ((n : Int) ≤ (l1 : Int)) = false := by simp; omega
            have hd3 : decide (n ≤ l1) = false := by simp; omega
            have b4 : (l1 : Int) < (n : Int) := by omega
            go_wp2
            go_big_quiet (fail)
            go_wp2
            go_region
            go_wp2
            go_roundg (n - (p1 + 1))
            case measure => have := HK.out; omega
            case rel => exact ⟨p1, l1 + 1, p1 + 1, rfl, by go_num, by go_num, by omega, HM2.out _⟩
    · have htn' : t + 1 = n := by omega
      obtain ⟨⟨z, c1⟩, f1, hL2⟩ := HL.out.end' (by rw [HN.out]; exact htn')
      have et : t - 1 = n - 2 := by omega
      rw [et] at c1 f1 hL2
      have H2 : Hid (L2 ws g w (n - 2) (wr.setCell ⟨g, n - 2, none⟩ (.int .u32 0))) := hL2
      clear HL cp cl ct fz T1 T2 hL2 hxy hx hy2 et
      have hi2 : (n : Int) - 2 < (n : Int) := by omega
      have hi3 : (0 : Int) ≤ (n : Int) - 2 := by omega
      go_wp2
      clear c1 f1
      go_loopg [6] (n - 2) (fun k s6 wx => s6 = .int .i64 ((k : Int) - 1) ∧ k ≤ n - 2 ∧ Hid (L2 ws g w k wx))
      case atStart => exact ⟨by go_num, Nat.le_refl _, H2⟩
      case round =>
        clear H2
        obtain ⟨rfl, hk2, H2⟩ := hrel
        by_cases hk : 1 ≤ gk
        · obtain ⟨u, rfl⟩ : ∃ u, gk = u + 1 := ⟨gk - 1, by omega⟩
          obtain ⟨q, d, hq1, hq2, hd2, cu, cq, fu, hL2⟩ := H2.out.facts HW.out (by rw [HN.out]; omega)
          rw [HN.out] at hq2 hd2
          have H3 : Hid (L2 ws g w u _) := hL2
          clear hL2 H2
          have i1 : (u : Int) < (n : Int) := by omega
          have i2 : (q : Int) < (n : Int) := by omega
          go_wp2
          go_roundg u
          case measure => omega
          case rel => exact ⟨by go_num, by omega, H3⟩
        · have hk0 : gk ≤ 0 := by omega
          have hk1 : gk = 0 := by omega
          have H2 : Hid (L2 ws g w 0 wr) := by have h := H2.out; rw [hk1] at h; exact h
          clear hk1 hk
          have hP := Huff.par_parents ws HW.out
          have hD := Huff.dep_depths hP
          have hH : Huff.lens (ws.length - 2) (Huff.depths 0 (Huff.parents ws)) = Huff.hl ws := rfl
          have h3 := H2.out.end' HW.out
          have hdl := hD.len
          rw [HN.out] at hP hD hH h3 hdl
          obtain ⟨m, hm⟩ : ∃ m, n = m + 2 := ⟨n - 2, by omega⟩
          rw [show n - 2 = m from by omega] at hP hD hH h3 hdl
          generalize Huff.depths 0 (Huff.parents ws) = D at hP hD hH h3 hdl
          generalize Huff.parents ws = P at hP hD
          have HP : Hid (Huff.Par m P) := hP
          have HD : Hid (Huff.Dep m P D) := hD
          have HH : Hid (Huff.lens m D = Huff.hl ws) := hH
          have H3 : Hid (L3 m D g w 0 0 (n - 1) n wr) := h3
          have HG0 : Hid (Huff.geq D 0 = n - 1) := by show _ = _; rw [Huff.geq_zero, hdl]; omega
          have hm' : n ≤ m + 2 ∧ m + 2 ≤ n := by omega
          clear hP hD hH h3 hdl H2 hm htn' htn hln hl hp HK hi2 hi3
          go_wp2
          go_loopg [3, 7, 8, 9, 10] (n + 1) (fun k s3 s7 s8 s9 s10 wx => ∃ d A G X : Nat, s3 = .int .i64 ((G : Int) - 1) ∧ s7 = .int .i64 A ∧ s8 = .int .i64 0 ∧ s9 = .int .u32 d ∧ s10 = .int .i64 ((X : Int) - 1) ∧
            (A ≤ 2 * n ∧ G ≤ n ∧ X ≤ n ∧ d ≤ n) ∧ Hid (k = n + 1 - d ∧ A = Huff.avail D d ∧ G = Huff.geq D d ∧ L3 m D g w d 0 G X wx))
          case atStart => exact ⟨0, 1, n - 1, n, by go_num, rfl, rfl, rfl, rfl, by omega, rfl, rfl, HG0.out.symm, H3⟩
          case round =>
            clear H3
            obtain ⟨d, A, G, X, rfl, rfl, rfl, rfl, rfl, ⟨hA, hG, hX, hd⟩, H4⟩ := hrel
            by_cases hA1 : 1 ≤ A
            · have hsm := Huff.depth_small HP.out HD.out d (by have := H4.out.2.1; omega)
              have hca := Huff.count_avail HP.out HD.out d
              have hgs := Huff.geq_succ D d
              have hll := Huff.lensTo_length HP.out HD.out d
              rw [← H4.out.2.1] at hca hll
              rw [← H4.out.2.2.1] at hgs hll hsm
              have hXe : X + (Huff.lensTo D d).length = m + 2 := by obtain ⟨_, _, _, _, _, h, _⟩ := H4.out.2.2.2; omega
              obtain ⟨N, hN⟩ : ∃ N, N = D.count d := ⟨_, rfl⟩
              obtain ⟨G', hG'⟩ : ∃ G', G' = Huff.geq D (d + 1) := ⟨_, rfl⟩
              rw [← hN] at hca hgs
              rw [← hG'] at hgs
              have HN2 : Hid (N = D.count d ∧ G' = Huff.geq D (d + 1)) := ⟨hN, hG'⟩
              have hXA : X ≤ A + G ∧ A + G ≤ X := by omega
              have hGG : N + G' ≤ G ∧ G ≤ N + G' := by omega
              have hdd : d + 1 ≤ n := by omega
              have HW2 : Hid (∀ i, i < G → ∃ e, wr.cell? ⟨g, i, none⟩ = some (.int .u32 ((e : Nat) : Int)) ∧ d ≤ e ∧ (e = d → G' ≤ i) ∧ (e ≠ d → i < G')) := by
                intro i hi
                have hpw := Huff.dep_pairwise HP.out HD.out
                have hil : i < D.length := by
                  have := Huff.geq_le D d
                  have := H4.out.2.2.1
                  omega
                have h1 := Huff.geq_iff D hpw d i hil
                have h2 := Huff.geq_iff D hpw (d + 1) i hil
                have hrd := (H4.out.2.2.2.less (i + 1) (by omega)).read (by omega)
                simp only [Nat.add_sub_cancel] at hrd
                rw [← H4.out.2.2.1] at h1
                rw [← hG'] at h2
                refine ⟨D.getD i 0, hrd, ?_, ?_, ?_⟩ <;> simp only [List.getD, List.getElem?_eq_getElem hil, Option.getD_some] <;> omega
              have hNA : N ≤ A := hca
              have hA2 : (0 : Int) < (A : Int) := by omega
              have hA3 : 0 < A := by omega
              clear hca hgs hll hXe hN hG' hsm
              go_upto_block 6 with fail
              go_cut [3, 8] (fun s3 s8 wx => s3 = .int .i64 ((G' : Int) - 1) ∧ s8 = .int .i64 N ∧ wx = wr)
              case first =>
                go_wp2_with fail
                go_loopg [3, 8] G (fun k s3 s8 wx => ∃ u : Nat, s3 = .int .i64 ((k : Int) - 1) ∧ s8 = .int .i64 u ∧ (u + k ≤ G ∧ G ≤ u + k ∧ G' ≤ k) ∧ wx = wr)
                case atStart => exact ⟨0, rfl, rfl, by omega, rfl⟩
                case round =>
                  obtain ⟨u, rfl, rfl, ⟨hu1, hu2, hu3⟩, rfl⟩ := hrel
                  by_cases hk : 1 ≤ gk
                  · obtain ⟨i, rfl⟩ : ∃ i, gk = i + 1 := ⟨gk - 1, by omega⟩
                    obtain ⟨e, ce, he1, he2, he3⟩ := HW2.out i (by omega)
                    have i1 : (i : Int) < (n : Int) := by omega
                    by_cases hed : e = d
                    · have he2 := he2 hed
                      subst hed
                      clear he3 he1
                      go_wp2
                      go_roundg i
                      case measure => omega
                      case rel => exact ⟨u + 1, by go_num, by go_num, by omega, rfl⟩
                    · have he3 := he3 hed
                      have hed1 : ((e : Int) == (d : Int)) = false := by simp; omega
                      clear he2 hed
                      go_wp2
                      go_meet
                      exact ⟨by go_num, by go_num, rfl⟩
                  · go_wp2
                    go_meet
                    exact ⟨by go_num, by go_num, rfl⟩
              case rest =>
                obtain ⟨rfl, rfl, rfl⟩ := hcut
                clear HW2
                have H5 : Hid (L3 m D g w d 0 G' X wc) := H4.out.2.2.2.less G' (by omega)
                go_wp2_with fail
                go_loopg [7, 10] (A - N) (fun k s7 s10 wx => ∃ s X' : Nat, s7 = .int .i64 ((N : Int) + (k : Int)) ∧ s10 = .int .i64 ((X' : Int) - 1) ∧ (s + k ≤ A - N ∧ A - N ≤ s + k ∧ X' + s ≤ A + G ∧ A + G ≤ X' + s ∧ X' ≤ n) ∧ Hid (L3 m D g w d s G' X' wx))
                case atStart => exact ⟨0, X, by go_num, rfl, by omega, H5⟩
                case round =>
                  clear H5
                  obtain ⟨s, X', rfl, rfl, ⟨hs1, hs2, hs3, hs4, hs5⟩, H5⟩ := hrel
                  by_cases hk : 1 ≤ gk
                  · obtain ⟨i, rfl⟩ : ∃ i, gk = i + 1 := ⟨gk - 1, by omega⟩
                    obtain ⟨⟨z, cz⟩, fz, hL⟩ := H5.out.write (by omega)
                    obtain ⟨Y, rfl⟩ : ∃ Y, X' = Y + 1 := ⟨X' - 1, by omega⟩
                    simp only [Nat.add_sub_cancel] at cz fz hL
                    have H6 : Hid (L3 m D g w d (s + 1) G' Y _) := hL
                    clear hL H5
                    have i1 : (Y : Int) < (n : Int) := by omega
                    go_wp2
                    go_roundg i
                    case measure => omega
                    case rel => exact ⟨s + 1, Y, by go_num, by go_num, by omega, H6⟩
                  · have hk0 : gk ≤ 0 := by omega
                    have H6 : Hid (L3 m D g w (d + 1) 0 G' X' _) := H5.out.level (by
                      have h1 := HN2.out.1
                      have h2 := H4.out.2.1
                      omega)
                    go_wp2
                    go_roundg (n - d)
                    case measure => have := H4.out.1; omega
                    case rel => exact ⟨d + 1, 2 * N, G', X', rfl, by go_num, rfl, by go_num, rfl, by omega, by omega, by rw [HN2.out.1]; rfl, HN2.out.2, H6⟩
            · go_wp2
              go_end0
              refine ⟨rfl, ?_⟩
              have := Huff.lens_of_end HP.out HD.out d (by have := H4.out.2.1; omega) (by omega)
              have h5 := L3.end' HP.out HD.out H4.out.2.2.2 (by have := H4.out.2.1; omega) (by omega)
              rw [HH.out] at h5
              exact h5
end Go.Proofs.Qxb6605568a
