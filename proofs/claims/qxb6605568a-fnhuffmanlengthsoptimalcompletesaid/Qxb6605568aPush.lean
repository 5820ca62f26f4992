/-
  heapPush (function 19), walked.
-/
import Derived.Test.Qxb6605568aFull
import Derived.Test.Qxb6605568aHeap
import Derived.Deep.AppendLies
namespace Go.Proofs.Qxb6605568a
open Go.RowKit
set_option linter.unusedVariables false

/-- The heap's slice: n numbers hs at the head of block H; all else as in w0, but for new blocks. -/
structure HAt (B H n cap : Nat) (hs : List Nat) (w0 wr : World) : Prop where
  own : wr.ownsRow B 24 1 (.slice (some ⟨H, 0, none⟩) n cap) n ((nats hs).map (Value.int .u64))
  kept : w0.grownBy wr (some H)

theorem grownBy_trans {a b c : World} {H : Nat} (h1 : a.grownBy b (some H)) (h2 : b.grownBy c (some H)) : a.grownBy c (some H) :=
  ⟨h2.os.trans h1.os, h2.tape.trans h1.tape, h2.output.trans h1.output, Nat.le_trans h1.size h2.size, fun k hk hne => (h2.block k (Nat.lt_of_lt_of_le hk h1.size) hne).trans (h1.block k hk hne)⟩

section
variable {B H n cap : Nat} {hs : List Nat} {w0 wr : World}
theorem HAt.len (h : HAt B H n cap hs w0 wr) : hs.length = n := by have := h.own.1; simpa [nats] using this
theorem HAt.cell (h : HAt B H n cap hs w0 wr) (i : Nat) (hi : i < n) : wr.cell? ⟨H, i, none⟩ = some (.int .u64 ((hs.getD i 0 : Nat) : Int)) := by
  have hl := h.len
  rw [h.own.cellAt i (by omega), List.getElem?_map, List.getElem?_eq_getElem (by rw [nats_length]; omega)]
  simp [nats, List.getD, show i < hs.length by omega]
theorem HAt.frozen (h : HAt B H n cap hs w0 wr) (i : Nat) : wr.frozen? ⟨H, i, none⟩ = false := h.own.frozenAt i
theorem HAt.drewN (h : HAt B H n cap hs w0 wr) (q : Nat) : HAt B H n cap hs w0 (wr.drewN q) := ⟨h.own, ⟨h.kept.os, h.kept.tape, h.kept.output, h.kept.size, h.kept.block⟩⟩
theorem HAt.set (h : HAt B H n cap hs w0 wr) (i v : Nat) (z : Int) (hz : z = (v : Int)) : HAt B H n cap (hs.set i v) w0 (wr.setCell ⟨H, i, none⟩ (.int .u64 z)) := by
  subst hz
  have := h.own.stored i (.int .u64 (v : Int))
  refine ⟨?_, grownBy_trans h.kept this.2⟩
  rw [nats_set, List.map_set]
  exact this.1
theorem HAt.swap (h : HAt B H n cap hs w0 wr) (p i q : Nat) : HAt B H n cap (Huff.swp hs p i) w0 (((wr.drewN q).setCell ⟨H, p, none⟩ (.int .u64 ((hs.getD i 0 : Nat) : Int))).setCell ⟨H, i, none⟩ (.int .u64 ((hs.getD p 0 : Nat) : Int))) :=
  ((h.drewN q).set p (hs.getD i 0) _ rfl).set i (hs.getD p 0) _ rfl
end

set_option maxRecDepth 100000 in
set_option maxHeartbeats 4000000 in
theorem push_any (B H n cap v : Nat) (hs : List Nat) (w : World) (HA : Hid (HAt B H n cap hs w w)) (HH : Hid (Huff.Heap hs)) (hn : n < cap) (hc : cap ≤ 65536) (hv : v < 18446744073709551616) (hB : B ≤ H) :
    Calls Try.prog 19 #[.slice (some ⟨H, 0, none⟩) n cap, .int .u64 v] w fun e w' => e = .returned (.slice (some ⟨H, 0, none⟩) (n + 1) cap) ∧ ∃ hs', HAt B H (n + 1) cap hs' w w' ∧ Huff.Heap hs' ∧ hs'.Perm (v :: hs) := by
  obtain ⟨i0, hi0, hz0, hz1, hz2⟩ := info_parts Try.info24
  have hown := HA.out.own
  go_enter Try.func19, Try.ntmps19
  go_wp2_with (at_builtin; refine wpList_append_fits _ rfl (.tmp 8) (.tmp 10) 37 rfl B 24 i0 1 Try.underlying37 hi0 hz1 H n cap _ (by rfl) (hown.alloc _) ⟨w.heap.size, 0, none⟩ 1 1 [.int .u64 (v : Int)] (by rfl) (by rfl) (by exact World.news_of_block (cs := #[.int .u64 (v : Int)]) (t := 24) (fr := (0, 0)) (heap_alloc_new w _)) (by simp [Value.oneCell']) (by omega) ?_)
  intro w1 hown1 hgrow1
  have HA1 : Hid (HAt B H (n + 1) cap (hs ++ [v]) w w1) := by
    refine ⟨?_, ?_⟩
    · simpa [nats] using hown1
    · exact grownBy_trans (World.grownBy_alloc w _ _) hgrow1
  clear hown hown1 hgrow1 hi0 hz0 hz1 hz2
  have HP1 : Hid (Huff.Up (hs ++ [v]) n ∧ (hs ++ [v]).Perm (v :: hs)) := by
    refine ⟨?_, List.perm_append_comm⟩
    have := Huff.up_start HH.out v
    rwa [HA.out.len] at this
  clear HA HH
  go_wp2
  go_loopg [5, 6, 7] n (fun k s5 s6 s7 wx => s5 = .int .i64 k ∧ k ≤ n ∧ ∃ hx, Hid (HAt B H (n + 1) cap hx w wx) ∧ Hid (Huff.Up hx k ∧ hx.Perm (v :: hs)))
  case atStart => exact ⟨rfl, Nat.le_refl _, _, HA1, HP1⟩
  case round =>
    clear HA1 HP1
    obtain ⟨rfl, hk, hx, HA, HP⟩ := hrel
    have hxl := HA.out.len
    by_cases hk0 : 1 ≤ gk
    · obtain ⟨p, hp⟩ : ∃ p, p = (gk - 1) / 2 := ⟨_, rfl⟩
      have ep : ((gk : Int) - 1) / 2 = (p : Int) := by omega
      have hpk : p < gk := by omega
      have cx := HA.out.cell p (by omega)
      have cy := HA.out.cell gk (by omega)
      have fx := HA.out.frozen p
      have fy := HA.out.frozen gk
      have HS : Hid (∀ q, HAt B H (n + 1) cap (Huff.swp hx p gk) w _) := fun q => HA.out.swap p gk q
      obtain ⟨x, hxe⟩ : ∃ x, x = hx.getD p 0 := ⟨_, rfl⟩
      obtain ⟨y, hye⟩ : ∃ y, y = hx.getD gk 0 := ⟨_, rfl⟩
      have HD : Hid (p = (gk - 1) / 2 ∧ x = hx.getD p 0 ∧ y = hx.getD gk 0 ∧ hx.length = n + 1) := ⟨hp, hxe, hye, hxl⟩
      rw [← hxe] at cx HS
      rw [← hye] at cy HS
      clear hp hxe hye hxl
      have i1 : (p : Int) < (n : Int) + 1 := by omega
      have i2 : (gk : Int) < (n : Int) + 1 := by omega
      have i3 : (0 : Int) < (gk : Int) := by omega
      have i4 : 0 < gk := by omega
      by_cases hxy : x ≤ y
      · have hc1 : (x : Int) ≤ (y : Int) := by omega
        have HE : Hid (Huff.Heap hx) := Huff.up_done HP.out.1 (.inr (by rw [← HD.out.1, ← HD.out.2.1, ← HD.out.2.2.1]; exact hxy))
        have HP2 : Hid (hx.Perm (v :: hs)) := HP.out.2
        clear HP HD HS
        go_wp2
        go_big_quiet (fail)
        go_wp2
        go_ret
        exact ⟨rfl, hx, HA.out.drewN _, HE.out, HP2.out⟩
      · have hc1 : decide ((x : Int) ≤ (y : Int)) = false := by simp; omega
        have hc2 : decide (x ≤ y) = false := by simp; omega
        have HP3 : Hid (Huff.Up (Huff.swp hx p gk) p ∧ (Huff.swp hx p gk).Perm (v :: hs)) := by
          obtain ⟨d1, d2, d3, d4⟩ := HD.out
          refine ⟨Huff.up_swap HP.out.1 (by omega) (by omega) d1 (by rw [← d2, ← d3]; omega), ?_⟩
          exact (Huff.swp_perm hx p gk (by omega) (by omega) (by omega)).trans HP.out.2
        clear HP HD HA
        go_wp2
        go_big_quiet (fail)
        go_wp2
        go_roundg p
        case measure => omega
        case rel => exact ⟨by rw [ep], by omega, _, HS.out _, HP3⟩
    · have hk1 : gk ≤ 0 := by omega
      have HE : Hid (Huff.Heap hx) := Huff.up_done HP.out.1 (.inl (by omega))
      go_wp2
      go_ret
      exact ⟨rfl, hx, HA.out, HE.out, HP.out.2⟩
end Go.Proofs.Qxb6605568a
