/-
  FnReaderMoreWalksSeparatorRun (function 6): its walks.
-/
import Derived.Test.Qxb6605588aSep
namespace Go.Proofs.Qxb6605588a
open Go.RowKit
set_option linter.unusedVariables false

theorem SR.se_le {c : Nat → Nat} {n x i k p j : Nat} (h : SR c n x i k) (hpk : p ≤ k) (hj : SE c n p j) : j ≤ k := by
  rcases Nat.lt_or_ge k j with a | a
  · have := hj.all k hpk a
    rw [h.at', h.x2] at this
    cases this
  · exact a
theorem SE.no_comma {c : Nat → Nat} {n p j : Nat} (hj : SE c n p j) (i : Nat) : cm c i j = cm c i p := by
  have e : j = p + (j - p) := by have := hj.lo; omega
  rw [e]
  refine cm_same c i p (j - p) ?_
  intro t h1 h2 h
  have := hj.all t h1 (by omega)
  rw [h] at this
  cases this
theorem SR.step {c : Nat → Nat} {n x i k p : Nat} (h : SR c n x i k) (hp : i ≤ p) (hpk : p ≤ k) {b : Bool} {m : Nat} (hm : MoreSpec c n x p b m) :
    (b = false ∧ m = k + 1 ∧ cm c i k = cm c i p) ∨ (b = true ∧ p < m ∧ m ≤ k ∧ cm c i m = cm c i p + 1) := by
  obtain ⟨j, hj, hjn, h3⟩ := hm
  have hjk := h.se_le hpk hj
  have hpj := hj.lo
  rcases h3 with ⟨hx, rfl, rfl⟩ | ⟨hx, h44, rfl, hse⟩ | ⟨hx, h44, rfl, rfl⟩
  · left
    have e : j = k := by
      rcases Nat.lt_or_ge j k with a | a
      · exact absurd hx (h.run j (by omega) a).1
      · omega
    subst e
    exact ⟨rfl, rfl, hj.no_comma i⟩
  · right
    have hlt : j < k := by
      rcases Nat.lt_or_ge j k with a | a
      · exact a
      · exact absurd (by rw [show j = k by omega]; exact h.at') hx
    have h1 := hse.lo
    refine ⟨rfl, by omega, h.se_le (by omega) hse, ?_⟩
    rw [hse.no_comma i, cm_comma c i j (by omega) h44, hj.no_comma i]
  · exfalso
    have hlt : m < k := by
      rcases Nat.lt_or_ge m k with a | a
      · exact a
      · exact absurd (by rw [show m = k by omega]; exact h.at') hx
    rcases (h.run m (by omega) hlt).2 with a | a
    · exact h44 a
    · rw [hj.stop hjn] at a
      cases a

theorem wr_long (a : Option Addr) (n cap : Nat) (i : Int) (x : Int) (w : World) (h : 1048576 < n) (hm : n ≤ maxLen) :
    Calls Try.prog 6 #[.slice a n cap, .int .i64 i, .int .u8 x] w fun e w' => e = .returned (.bool true) ∧ w' = w := by
  unfold maxLen at hm
  go_enter Try.func6, Try.ntmps6
  go_wp2
  go_ret
  exact ⟨rfl, rfl⟩
theorem wr_neg (a : Option Addr) (n cap : Nat) (i : Int) (x : Int) (w : World) (h : n ≤ 1048576) (hi : i < 0) :
    Calls Try.prog 6 #[.slice a n cap, .int .i64 i, .int .u8 x] w fun e w' => e = .returned (.bool true) ∧ w' = w := by
  go_enter Try.func6, Try.ntmps6
  go_wp2_with (first | (go_at_call 15; go_in) | (go_at_call 16; refine (sep_neg a n cap i x _ h hi).mono ?_; rintro e w' ⟨rfl, hw'⟩; subst w'))
  go_ret
  exact ⟨rfl, rfl⟩
theorem wr_past (a : Option Addr) (n cap : Nat) (i : Int) (x : Int) (w : World) (h : n ≤ 1048576) (hi : (n : Int) < i) :
    Calls Try.prog 6 #[.slice a n cap, .int .i64 i, .int .u8 x] w fun e w' => e = .returned (.bool true) ∧ w' = w := by
  go_enter Try.func6, Try.ntmps6
  go_wp2_with (first | (go_at_call 15; go_in) | (go_at_call 16; refine (sep_past a n cap i x _ h hi).mono ?_; rintro e w' ⟨rfl, hw'⟩; subst w'))
  go_ret
  exact ⟨rfl, rfl⟩
theorem wr_none (a : Option Addr) (cap : Nat) (x : Int) (w : World) (hx0 : 0 ≤ x) (hx1 : x ≤ 255) :
    Calls Try.prog 6 #[.slice a 0 cap, .int .i64 0, .int .u8 x] w fun e w' => e = .returned (.bool true) ∧ w' = w := by
  obtain ⟨y, rfl⟩ : ∃ y : Nat, x = (y : Int) := ⟨x.toNat, by omega⟩
  go_enter Try.func6, Try.ntmps6
  go_wp2_with (first | (go_at_call 15; go_in) | (go_at_call 16; refine (sep_none a cap y _).mono ?_; rintro e w' ⟨rfl, hw'⟩; subst w'))
  go_ret
  exact ⟨rfl, rfl⟩

set_option maxRecDepth 100000 in
set_option maxHeartbeats 4000000 in
theorem wr_main (b off n cap i x : Nat) (c : Nat → Nat) (w : World) (hi : i ≤ n) (hn : n ≤ 1048576) (hx : x < 256) (hb : b < w.heap.size) (HC : Hid (∀ t, t < n → w.cell? ⟨b, off + t, none⟩ = some (.int .u8 ((c t : Nat) : Int)))) :
    Calls Try.prog 6 #[.slice (some ⟨b, off, none⟩) n cap, .int .i64 (i : Int), .int .u8 (x : Int)] w fun e w' => e = .returned (.bool true) ∧ Below w.heap.size w w' := by
  go_enter Try.func6, Try.ntmps6
  go_wp2_with (first | (go_at_call 15; go_in))
  refine (sep_any b off n cap i x c w hi hn HC).mono ?_
  rintro e w' ⟨K, Q, ok, rfl, hok, hw'⟩
  subst w'
  cases ok
  · clear hok
    go_wp2_with fail
    go_ret
    exact ⟨rfl, Below.refl _ _⟩
  · have HR : Hid (SR c n x i K ∧ Q = cm c i K) := hok rfl
    have hK : K < n := HR.out.1.hi
    have hiK : i ≤ K := HR.out.1.lo
    have hQ : Q ≤ K := by rw [HR.out.2]; exact cm_le c i K
    clear hok
    go_wp2_with fail
    refine (copy_row b off n cap c hn w hb HC).mono ?_
    rintro e w1 ⟨rfl, hb1, hs1, hc1⟩
    obtain ⟨G, hG⟩ : ∃ G, G = w.heap.size := ⟨_, rfl⟩
    rw [← hG] at hb1 hs1 hc1 ⊢
    have HG : Hid (G = w.heap.size) := hG
    have HB1 : Hid (Below G w w1 ∧ G < w1.heap.size ∧ ∀ t, t < n → w1.cell? ⟨G, t, none⟩ = some (.int .u8 ((c t : Nat) : Int))) := ⟨hb1, hs1, hc1⟩
    clear hb1 hs1 hc1 hG HC
    go_wp2_with fail
    go_loopg [10, 11, 12, 13, 14] (K - i) (fun k s10 s11 s12 s13 s14 wx => ∃ p q : Nat, s10 = .int .i64 p ∧ s11 = .int .i64 q ∧ s12 = .int .i64 q ∧ (i ≤ p ∧ p + k ≤ K ∧ K ≤ p + k ∧ q ≤ p) ∧ Hid (q = cm c i p) ∧ Hid (Below G w wx ∧ G < wx.heap.size ∧ ∀ t, t < n → wx.cell? ⟨G, t, none⟩ = some (.int .u8 ((c t : Nat) : Int))))
    case atStart => exact ⟨i, 0, rfl, rfl, rfl, by omega, (cm_none c i i (Nat.le_refl _)).symm, HB1⟩
    case round =>
      clear HB1
      obtain ⟨p, q, rfl, rfl, rfl, ⟨hp1, hp2, hp3, hq⟩, HQ, HB⟩ := hrel
      have HJ : Hid (∀ j, SE c n p j → j < n) := fun j hj => by have := HR.out.1.se_le (by omega) hj; omega
      have l1 : (q : Int) ≤ (n : Int) := by omega
      go_wp2_with fail
      refine (zzmore_any G n n p x c wr (by omega) hn hx HB.out.2.1 HJ HB.out.2.2).mono ?_
      rintro e w2 ⟨bb, m, rfl, hm, hb2⟩
      have HS : Hid ((bb = false ∧ m = K + 1 ∧ cm c i K = cm c i p) ∨ (bb = true ∧ p < m ∧ m ≤ K ∧ cm c i m = cm c i p + 1)) := HR.out.1.step hp1 (by omega) hm
      have HB2 : Hid (Below G w w2 ∧ G < w2.heap.size ∧ ∀ t, t < n → w2.cell? ⟨G, t, none⟩ = some (.int .u8 ((c t : Nat) : Int))) := by
        obtain ⟨g1, g2, g3⟩ := HB.out
        refine ⟨g1.trans (hb2.mono (by omega)), by have := hb2.size; omega, fun t ht => ?_⟩
        rw [hb2.cell (p := ⟨G, t, none⟩) g2]
        exact g3 t ht
      clear hm hb2 HJ HB
      cases bb
      · have hm : m = K + 1 ∧ Q = q := by
          rcases HS.out with ⟨_, h1, h2⟩ | ⟨h, _⟩
          · exact ⟨h1, by rw [HR.out.2, HQ.out]; exact h2⟩
          · cases h
        obtain ⟨rfl, rfl⟩ := hm
        clear HS
        go_wp2_with fail
        go_ret
        exact ⟨rfl, by rw [← HG.out]; exact HB2.out.1⟩
      · have hm : p < m ∧ m ≤ K ∧ q + 1 = cm c i m := by
          rcases HS.out with ⟨h, _⟩ | ⟨_, h1, h2, h3⟩
          · cases h
          · exact ⟨h1, h2, by rw [h3, ← HQ.out]⟩
        obtain ⟨hm1, hm2, hm3⟩ := hm
        have HQ2 : Hid (q + 1 = cm c i m) := hm3
        clear HS hm3
        have v1 : decide ((m : Int) ≤ (p : Int)) = false := by simp; omega
        have v2 : decide (m ≤ p) = false := by simp; omega
        have v3 : decide ((K : Int) < (m : Int)) = false := by simp; omega
        have v4 : decide (K < m) = false := by simp; omega
        go_wp2_with fail
        go_roundg (K - m)
        case measure => omega
        case rel => exact ⟨m, q + 1, by go_num, by go_num, by go_num, by omega, HQ2, HB2⟩
end Go.Proofs.Qxb6605588a
