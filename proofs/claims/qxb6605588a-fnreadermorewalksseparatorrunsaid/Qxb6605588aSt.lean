/-
  FnReaderMoreStopsAtNextItem (function 5): its walks.
-/
import Derived.Test.Qxb6605588aZm
import Derived.Test.Qxb6605588aCp
namespace Go.Proofs.Qxb6605588a
open Go.RowKit
set_option linter.unusedVariables false

theorem isSpace_is (x : Nat) (b : Bool) (h : sp x = b) (w : World) : Calls Try.prog 12 #[.int .u8 (x : Int)] w fun e w' => e = .returned (.bool b) ∧ w' = w := by
  rw [← h]; exact isSpace_any x w

theorem st_long (a : Option Addr) (n cap : Nat) (i : Int) (x : Int) (w : World) (h : 1048576 < n) (hm : n ≤ maxLen) :
    Calls Try.prog 5 #[.slice a n cap, .int .i64 i, .int .u8 x] w fun e w' => e = .returned (.bool true) ∧ w' = w := by
  unfold maxLen at hm
  go_enter Try.func5, Try.ntmps5
  go_wp2
  go_ret
  exact ⟨rfl, rfl⟩
theorem st_neg (a : Option Addr) (n cap : Nat) (i : Int) (x : Int) (w : World) (h : n ≤ 1048576) (hi : i < 0) :
    Calls Try.prog 5 #[.slice a n cap, .int .i64 i, .int .u8 x] w fun e w' => e = .returned (.bool true) ∧ w' = w := by
  go_enter Try.func5, Try.ntmps5
  go_wp2
  go_ret
  exact ⟨rfl, rfl⟩
theorem st_past (a : Option Addr) (n cap : Nat) (i : Int) (x : Int) (w : World) (h : n ≤ 1048576) (hi : (n : Int) < i) :
    Calls Try.prog 5 #[.slice a n cap, .int .i64 i, .int .u8 x] w fun e w' => e = .returned (.bool true) ∧ w' = w := by
  have hi0 : ¬ i < 0 := by omega
  have d0 : decide (i < 0) = false := by simp; omega
  go_enter Try.func5, Try.ntmps5
  go_wp2
  go_ret
  exact ⟨rfl, rfl⟩
theorem st_none (a : Option Addr) (cap : Nat) (x : Int) (w : World) (hx0 : 0 ≤ x) (hx1 : x ≤ 255) :
    Calls Try.prog 5 #[.slice a 0 cap, .int .i64 0, .int .u8 x] w fun e w' => e = .returned (.bool true) ∧ w' = w := by
  go_enter Try.func5, Try.ntmps5
  go_wp2
  go_loopg [7] 0 (fun k s1 wx => s1 = .int .i64 0 ∧ wx = w)
  case atStart => exact ⟨rfl, rfl⟩
  case round =>
    obtain ⟨rfl, rfl⟩ := hrel
    go_wp2
    go_ret
    exact ⟨rfl, rfl⟩

set_option maxRecDepth 100000 in
set_option maxHeartbeats 4000000 in
theorem st_main (b off n cap i x : Nat) (c : Nat → Nat) (w : World) (hi : i ≤ n) (hn : n ≤ 1048576) (hx : x < 256) (hb : b < w.heap.size) (HC : Hid (∀ t, t < n → w.cell? ⟨b, off + t, none⟩ = some (.int .u8 ((c t : Nat) : Int)))) :
    Calls Try.prog 5 #[.slice (some ⟨b, off, none⟩) n cap, .int .i64 (i : Int), .int .u8 (x : Int)] w fun e w' => e = .returned (.bool true) ∧ Below w.heap.size w w' := by
  have u1 : (i : Int) ≤ (n : Int) := by omega
  have u2 : decide ((n : Int) < (i : Int)) = false := by simp; omega
  have u3 : decide (n < i) = false := by simp; omega
  go_enter Try.func5, Try.ntmps5
  go_wp2_with (first | (go_at_call 11; go_in))
  go_loopg [7] (n - i) (fun k s1 wx => ∃ t : Nat, s1 = .int .i64 t ∧ (i ≤ t ∧ t + k ≤ n ∧ n ≤ t + k) ∧ Hid (∀ u, i ≤ u → u < t → sp (c u) = true) ∧ wx = w)
  case atStart => exact ⟨i, rfl, by omega, (fun u h1 h2 => by omega), rfl⟩
  case round =>
    obtain ⟨t, rfl, ⟨ht1, ht2, ht3⟩, HA, hwr⟩ := hrel
    subst wr
    by_cases htn : t < n
    · have ct := HC.out t htn
      obtain ⟨y, hy⟩ : ∃ y, y = c t := ⟨_, rfl⟩
      rw [← hy] at ct
      have HY : Hid (y = c t) := hy
      have i1 : (t : Int) < (n : Int) := by omega
      clear hy
      cases hs : sp y
      · have HS : Hid (SE c n i t) := ⟨ht1, by omega, HA.out, fun _ => by rw [← HY.out]; exact hs⟩
        have HJ : Hid (∀ j, SE c n i j → j < n) := fun j hj => by rw [hj.uniq HS.out]; exact htn
        clear HA
        go_wp2_with (first | (go_at_call 12; refine (isSpace_is y false hs _).mono ?_; rintro e w' ⟨rfl, hw'⟩; subst w') | fail)
        refine (copy_row b off n cap c hn w hb HC).mono ?_
        rintro e w1 ⟨rfl, hb1, hs1, hc1⟩
        obtain ⟨G, hG⟩ : ∃ G, G = w.heap.size := ⟨_, rfl⟩
        rw [← hG] at hb1 hs1 hc1 ⊢
        have HG : Hid (G = w.heap.size) := hG
        have HB1 : Hid (Below G w w1) := hb1
        have HC1 : Hid (∀ t, t < n → w1.cell? ⟨G, t, none⟩ = some (.int .u8 ((c t : Nat) : Int))) := hc1
        clear hb1 hc1 hG HC ct
        go_wp2_with fail
        refine (zzmore_any G n n i x c w1 hi hn hx hs1 HJ HC1).mono ?_
        rintro e w2 ⟨bb, m, rfl, hm, hb2⟩
        have HB2 : Hid (Below G w w2) := HB1.out.trans (hb2.mono (by omega))
        have HC2 : Hid (∀ t, t < n → w2.cell? ⟨G, t, none⟩ = some (.int .u8 ((c t : Nat) : Int))) := fun t ht => by rw [hb2.cell (p := ⟨G, t, none⟩) hs1]; exact HC1.out t ht
        obtain ⟨j, hj1, hj2, hj3⟩ := hm
        obtain rfl := hj1.uniq HS.out
        rw [← HY.out] at hj3
        clear hb2 hj1 hj2 HC1 HB1 HJ
        rcases hj3 with ⟨hyx, rfl, rfl⟩ | ⟨hyx, h44, rfl, hse⟩ | ⟨hyx, h44, rfl, rfl⟩
        · have v1 : decide ((j : Int) + 1 < (i : Int)) = false := by simp; omega
          have v2 : decide (j + 1 < i) = false := by simp; omega
          have v3 : decide ((n : Int) < (j : Int) + 1) = false := by simp; omega
          have v4 : decide (n < j + 1) = false := by simp; omega
          have v5 : ((j : Int) + 1 == (i : Int)) = false := by simp; omega
          have cj := HC2.out j htn
          rw [← HY.out] at cj
          have HX : Hid (sp x = false) := by show sp x = false; rw [← hyx]; exact hs
          go_wp2_with fail
          go_loopg [10] (j - i) (fun k s1 wx => ∃ u : Nat, s1 = .int .i64 u ∧ (i ≤ u ∧ u + k ≤ j ∧ j ≤ u + k) ∧ wx = w2)
          case atStart => exact ⟨i, rfl, by omega, rfl⟩
          case round =>
            obtain ⟨u, rfl, ⟨hu1, hu2, hu3⟩, hwr⟩ := hrel
            subst wr
            by_cases huj : u < j
            · have cu := HC2.out u (by omega)
              have su := HS.out.all u hu1 huj
              obtain ⟨z, hz⟩ : ∃ z, z = c u := ⟨_, rfl⟩
              rw [← hz] at cu su
              clear hz cj
              have i2 : (u : Int) < (j : Int) := by omega
              have i3 : (u : Int) < (n : Int) := by omega
              go_wp2_with (first | (go_at_call 12; refine (isSpace_is z true su _).mono ?_; rintro e w' ⟨rfl, hw'⟩; subst w'))
              go_roundg (gk - 1)
              case measure => omega
              case rel => exact ⟨u + 1, by go_num, by omega, by first | rfl | trivial⟩
            · have i2 : ¬ (u : Int) < (j : Int) := by omega
              go_wp2_with (first | (go_at_call 12; refine (isSpace_is x false HX.out _).mono ?_; rintro e w' ⟨rfl, hw'⟩; subst w'))
              go_ret
              exact ⟨rfl, by rw [← HG.out]; exact HB2.out⟩
        · have hm1 := hse.lo
          have hm2 := hse.hi
          have HM : Hid (SE c n (j + 1) m) := hse
          have HX : Hid (x ≠ 44) := by show x ≠ 44; omega
          have x44 : ((x : Int) == 44) = false := by simp; omega
          have v1 : decide ((m : Int) < (i : Int)) = false := by simp; omega
          have v2 : decide (m < i) = false := by simp; omega
          have v3 : decide ((n : Int) < (m : Int)) = false := by simp; omega
          have v4 : decide (n < m) = false := by simp; omega
          have HK : Hid (y = 44) := h44
          clear hse h44 hyx
          go_wp2_with fail
          go_loopg [11, 12, 13] (m - i) (fun k s11 s12 s13 wx => ∃ u q : Nat, s12 = .int .i64 u ∧ s11 = .int .i64 q ∧ (i ≤ u ∧ u + k ≤ m ∧ m ≤ u + k) ∧ ((u ≤ j ∧ q = 0) ∨ (j < u ∧ q = 1)) ∧ wx = w2)
          case atStart => exact ⟨i, 0, rfl, rfl, by omega, by omega, rfl⟩
          case round =>
            obtain ⟨u, q, rfl, rfl, ⟨hu1, hu2, hu3⟩, hq, hwr⟩ := hrel
            subst wr
            by_cases hum : u < m
            · have cu := HC2.out u (by omega)
              have HZ : Hid (if u = j then c u = 44 else sp (c u) = true) := by
                show if u = j then c u = 44 else sp (c u) = true
                split
                · next h => rw [h, ← HY.out]; exact HK.out
                · next h =>
                  by_cases h' : u < j
                  · exact HS.out.all u hu1 h'
                  · exact HM.out.all u (by omega) hum
              obtain ⟨z, hz⟩ : ∃ z, z = c u := ⟨_, rfl⟩
              rw [← hz] at cu HZ
              clear hz
              have i2 : (u : Int) < (m : Int) := by omega
              have i3 : (u : Int) < (n : Int) := by omega
              have hq1 : q ≤ 1 := by omega
              have HQ : Hid ((u ≤ j ∧ q = 0) ∨ (j < u ∧ q = 1)) := hq
              clear hq
              by_cases huj : u = j
              · have z4 : ((z : Int) == 44) = true := by
                  have := HZ.out
                  rw [if_pos huj] at this
                  simp; omega
                have HUJ : Hid (u = j) := huj
                clear HZ huj
                go_wp2_with fail
                go_roundg (gk - 1)
                case measure => omega
                case rel => exact ⟨u + 1, q + 1, by go_num, by go_num, by omega, by have := HQ.out; have := HUJ.out; omega, by first | rfl | trivial⟩
              · have su : sp z = true := by
                  have := HZ.out
                  rw [if_neg huj] at this
                  exact this
                have z4 : ((z : Int) == 44) = false := by
                  rcases sp_cases z with ⟨_, h⟩ | ⟨h, _⟩
                  · simp; omega
                  · rw [h] at su; cases su
                clear HZ
                go_wp2_with (first | (go_at_call 12; refine (isSpace_is z true su _).mono ?_; rintro e w' ⟨rfl, hw'⟩; subst w'))
                go_roundg (gk - 1)
                case measure => omega
                case rel => exact ⟨u + 1, q, by go_num, by go_num, by omega, by have := HQ.out; omega, by first | rfl | trivial⟩
            · have i2 : ¬ (u : Int) < (m : Int) := by omega
              obtain rfl : q = 1 := by omega
              by_cases hmn : m = n
              · have b1 : ((m : Int) == (n : Int)) = true := by simp; omega
                go_wp2_with fail
                go_ret
                exact ⟨rfl, by rw [← HG.out]; exact HB2.out⟩
              · have b1 : ((m : Int) == (n : Int)) = false := by simp; omega
                have cm := HC2.out m (by omega)
                have sm := HM.out.stop (by omega)
                obtain ⟨z, hz⟩ : ∃ z, z = c m := ⟨_, rfl⟩
                rw [← hz] at cm sm
                clear hz
                have i3 : (m : Int) < (n : Int) := by omega
                go_wp2_with (first | (go_at_call 12; refine (isSpace_is z false sm _).mono ?_; rintro e w' ⟨rfl, hw'⟩; subst w'))
                go_ret
                exact ⟨rfl, by rw [← HG.out]; exact HB2.out⟩
        · have v1 : decide ((m : Int) < (i : Int)) = false := by simp; omega
          have v2 : decide (m < i) = false := by simp; omega
          have v3 : decide ((n : Int) < (m : Int)) = false := by simp; omega
          have v4 : decide (n < m) = false := by simp; omega
          have y4 : ((y : Int) == 44) = false := by simp; omega
          have yx : ((y : Int) == (x : Int)) = false := by simp; omega
          have cm := HC2.out m htn
          rw [← HY.out] at cm
          have n4 : (y : Int) ≠ 44 := by omega
          have nx : (y : Int) ≠ (x : Int) := by omega
          have m4 : ((y : Int) != 44) = true := by simp; omega
          have mx : ((y : Int) != (x : Int)) = true := by simp; omega
          go_wp2_with fail
          go_loopg [11, 12, 13] (m - i) (fun k s11 s12 s13 wx => ∃ u : Nat, s12 = .int .i64 u ∧ s11 = .int .i64 0 ∧ (i ≤ u ∧ u + k ≤ m ∧ m ≤ u + k) ∧ wx = w2)
          case atStart => exact ⟨i, rfl, rfl, by omega, rfl⟩
          case round =>
            obtain ⟨u, rfl, rfl, ⟨hu1, hu2, hu3⟩, hwr⟩ := hrel
            subst wr
            by_cases hum : u < m
            · have cu := HC2.out u (by omega)
              have su := HS.out.all u hu1 hum
              obtain ⟨z, hz⟩ : ∃ z, z = c u := ⟨_, rfl⟩
              rw [← hz] at cu su
              clear hz cm
              have i2 : (u : Int) < (m : Int) := by omega
              have i3 : (u : Int) < (n : Int) := by omega
              have z4 : ((z : Int) == 44) = false := by
                rcases sp_cases z with ⟨_, h⟩ | ⟨h, _⟩
                · simp; omega
                · rw [h] at su; cases su
              go_wp2_with (first | (go_at_call 12; refine (isSpace_is z true su _).mono ?_; rintro e w' ⟨rfl, hw'⟩; subst w'))
              go_roundg (gk - 1)
              case measure => omega
              case rel => exact ⟨u + 1, by go_num, by go_num, by omega, by first | rfl | trivial⟩
            · have i2 : ¬ (u : Int) < (m : Int) := by omega
              go_wp2_with (first | (go_at_call 12; refine (isSpace_is y false hs _).mono ?_; rintro e w' ⟨rfl, hw'⟩; subst w'))
              go_ret
              exact ⟨rfl, by rw [← HG.out]; exact HB2.out⟩
      · go_wp2_with (first | (go_at_call 12; refine (isSpace_is y true hs _).mono ?_; rintro e w' ⟨rfl, rfl⟩))
        go_roundg (gk - 1)
        case measure => omega
        case rel => exact ⟨t + 1, by go_num, by omega, (fun u h1 h2 => by
          by_cases hu : u = t
          · subst hu; rw [← HY.out]; exact hs
          · exact HA.out u h1 (by omega)), by first | rfl | trivial⟩
    · go_wp2
      go_ret
      exact ⟨rfl, Below.refl _ _⟩
end Go.Proofs.Qxb6605588a
