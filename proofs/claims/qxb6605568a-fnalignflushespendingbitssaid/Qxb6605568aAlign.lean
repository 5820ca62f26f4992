/-
  '(*block).align' (function 21): its loop, walked once; the frame that it keeps.
-/
import Derived.Test.Qxb6605568aClone
import Derived.Deep.LoopGhost
import Derived.Deep.RegionLaw
import Derived.Deep.AppendLies
namespace Go.Proofs.Qxb6605568a
open Go.RowKit
set_option linter.unusedVariables false

/-- The bytes that the first j rounds append. -/
def bytesAt (acc j : Nat) : List Int := (List.range j).map fun i => ((acc / 256 ^ i % 256 : Nat) : Int)
theorem bytesAt_length (acc j : Nat) : (bytesAt acc j).length = j := by simp [bytesAt]
theorem bytesAt_succ (acc j : Nat) : bytesAt acc (j + 1) = bytesAt acc j ++ [((acc / 256 ^ j % 256 : Nat) : Int)] := by
  simp [bytesAt, List.range_succ]
theorem bytesAt_get (acc j i : Nat) (h : i < j) : (bytesAt acc j).getD i 0 = ((acc / 256 ^ i % 256 : Nat) : Int) := by
  simp [bytesAt, List.getD, h]

/-- w' is w but for block B, for block 'row', and for new blocks. -/
structure KeptFr (B : Nat) (row : Option Nat) (w w' : World) : Prop where
  os : w'.os = w.os
  tape : w'.tape = w.tape
  output : w'.output = w.output
  size : w.heap.size ≤ w'.heap.size
  block : ∀ k, k < w.heap.size → k ≠ B → some k ≠ row → w'.heap[k]? = w.heap[k]?

theorem KeptFr.refl (B : Nat) (row : Option Nat) (w : World) : KeptFr B row w w := ⟨rfl, rfl, rfl, Nat.le_refl _, fun _ _ _ _ => rfl⟩
theorem KeptFr.drew {B : Nat} {row : Option Nat} {w w' : World} (h : KeptFr B row w w') : KeptFr B row w w'.drew := ⟨h.os, h.tape, h.output, h.size, h.block⟩
theorem KeptFr.setCell {B : Nat} {row : Option Nat} {w w' : World} (h : KeptFr B row w w') (o : Nat) (u : Value) : KeptFr B row w (w'.setCell ⟨B, o, none⟩ u) :=
  ⟨h.os, h.tape, h.output, by simpa [World.setCell] using h.size, fun k hk hB hr => (Below.heap_setCell _ _ _ _ hB).trans (h.block k hk hB hr)⟩
theorem KeptFr.alloc {B : Nat} {row : Option Nat} {w w' : World} (h : KeptFr B row w w') (o : Obj) : KeptFr B row w (w'.alloc o) :=
  ⟨h.os, h.tape, h.output, by have := h.size; simp; omega, fun k hk hB hr => (Below.heap_alloc _ _ _ (by have := h.size; omega)).trans (h.block k hk hB hr)⟩
theorem KeptFr.grown {B : Nat} {row r : Option Nat} {w w1 w2 : World} (h : KeptFr B row w w1) (hg : w1.grownBy w2 r) (hr : r = row ∨ ∀ k, r = some k → w.heap.size ≤ k) : KeptFr B row w w2 :=
  ⟨hg.os.trans h.os, hg.tape.trans h.tape, hg.output.trans h.output, Nat.le_trans h.size hg.size, fun k hk hB hro => (hg.block k (by have := h.size; omega) (by
    rcases hr with rfl | hr
    · exact hro
    · intro e; have := hr k e.symm; omega)).trans (h.block k hk hB hro)⟩

/-- What stands at a round's head, behind j rounds: v lies in field 'out', a in 'acc', m in 'nbits'. -/
structure AInv (B base : Nat) (v0 : Value) (n acc nb : Nat) (xs : List Int) (w0 : World) (j : Nat) (v : Value) (a m : Nat) (wr : World) : Prop where
  c3 : wr.cell? ⟨B, 317, none⟩ = some v
  c4 : wr.cell? ⟨B, 318, none⟩ = some (.int .u64 a)
  c5 : wr.cell? ⟨B, 319, none⟩ = some (.int .u64 m)
  f3 : wr.frozen? ⟨B, 317, none⟩ = false
  f4 : wr.frozen? ⟨B, 318, none⟩ = false
  f5 : wr.frozen? ⟨B, 319, none⟩ = false
  own : wr.ownsRow base 5 1 v (n + j) ((xs ++ bytesAt acc j).map (Value.int .u8))
  at' : v.ownBlock = v0.ownBlock ∨ ∀ k, v.ownBlock = some k → w0.heap.size ≤ k
  far : v.ownBlock ≠ some B
  kept : KeptFr B v0.ownBlock w0 wr
  first : j = 0 → v = v0
  av : a = acc / 256 ^ j
  mv : m = nb - 8 * j

theorem AInv.next {B base : Nat} {v0 : Value} {n acc nb : Nat} {xs : List Int} {w0 : World} {j : Nat} {v : Value} {a m : Nat} {wr w1 : World} (h : AInv B base v0 n acc nb xs w0 j v a m wr)
    {g cap : Nat} {x : Int} (hx : x = ((a % 256 : Nat) : Int)) (hB : B < w0.heap.size)
    (hown : w1.ownsRow base 5 1 (.slice (some ⟨g, 0, none⟩) (n + j + 1) cap) (n + j + 1) ((xs ++ bytesAt acc j).map (Value.int .u8) ++ [.int .u8 x]))
    (hgrow : (wr.alloc (.cells #[.int .u8 x] 5)).drew.grownBy w1 v.ownBlock) (hat : v.ownBlock = some g ∨ g = wr.heap.size + 1)
    (k3 : w1.cell? ⟨B, 317, none⟩ = some v) (k4 : w1.cell? ⟨B, 318, none⟩ = some (.int .u64 a)) (k5 : w1.cell? ⟨B, 319, none⟩ = some (.int .u64 m))
    (g3 : w1.frozen? ⟨B, 317, none⟩ = false) (g4 : w1.frozen? ⟨B, 318, none⟩ = false) (g5 : w1.frozen? ⟨B, 319, none⟩ = false) :
    AInv B base v0 n acc nb xs w0 (j + 1) (.slice (some ⟨g, 0, none⟩) (n + j + 1) cap) (a / 256) (m - 8)
      ((((w1.setCell ⟨B, 317, none⟩ (.slice (some ⟨g, 0, none⟩) (n + j + 1) cap)).setCell ⟨B, 318, none⟩ (.int .u64 ((a / 256 : Nat) : Int))).setCell ⟨B, 319, none⟩ (.int .u64 ((m - 8 : Nat) : Int))).drew) := by
  have hne : g ≠ B := by
    rcases hat with h' | h'
    · intro e; subst e; exact h.far h'
    · have := h.kept.size; omega
  have own' : ∀ (wx : World) (o : Nat) (u : Value), wx.ownsRow base 5 1 (.slice (some ⟨g, 0, none⟩) (n + j + 1) cap) (n + j + 1) ((xs ++ bytesAt acc j).map (Value.int .u8) ++ [.int .u8 x]) →
      (wx.setCell ⟨B, o, none⟩ u).ownsRow base 5 1 (.slice (some ⟨g, 0, none⟩) (n + j + 1) cap) (n + j + 1) ((xs ++ bytesAt acc j).map (Value.int .u8) ++ [.int .u8 x]) := fun wx o u hw =>
    hw.kept (row := some B) ⟨rfl, rfl, rfl, by simp [World.setCell], fun k _ hk => Below.heap_setCell _ _ _ _ (fun e => hk (by simp [e]))⟩ (.inr (by simpa [Value.ownBlock] using hne))
  refine ⟨?_, ?_, ?_, ?_, ?_, ?_, ?_, ?_, ?_, ?_, ?_, ?_, ?_⟩
  · simp [go_sem, k3]
  · simp [go_sem, k4]
  · simp [go_sem, k5]
  · simp [go_sem, g3]
  · simp [go_sem, g4]
  · simp [go_sem, g5]
  · have := own' _ 319 (.int .u64 ((m - 8 : Nat) : Int)) (own' _ 318 (.int .u64 ((a / 256 : Nat) : Int)) (own' _ 317 (.slice (some ⟨g, 0, none⟩) (n + j + 1) cap) hown))
    rw [bytesAt_succ, ← h.av, ← hx]
    simpa [Nat.add_assoc] using this.drew
  · rcases hat with h' | h'
    · rcases h.at' with h2 | h2
      · left; rw [← h2, h']; rfl
      · right; intro k hk; exact h2 k (by rw [h', ← hk]; rfl)
    · right; intro k hk; simp [Value.ownBlock] at hk; have := h.kept.size; omega
  · simpa [Value.ownBlock] using hne
  · exact (((((h.kept.alloc _).drew.grown hgrow h.at').setCell 317 _).setCell 318 _).setCell 319 _).drew
  · omega
  · rw [h.av, Nat.div_div_eq_div_mul, Nat.pow_succ]
  · rw [h.mv]; omega

theorem wrap_u8_nat (a : Nat) : IntKind.u8.wrap (a : Int) = ((a % 256 : Nat) : Int) := by
  simp [IntKind.wrap, IntKind.signed, IntKind.bits]

set_option maxRecDepth 100000 in
set_option maxHeartbeats 4000000 in
/-- align: so many rounds as there are bytes begun. -/
theorem align_any (B base : Nat) (v0 : Value) (n acc nb : Nat) (xs : List Int) (w : World)
    (h0 : AInv B base v0 n acc nb xs w 0 v0 acc nb w) (hn : n ≤ 1048576) (hnb : nb ≤ 65536) (hacc : acc < 18446744073709551616) (hbase : base ≤ w.heap.size) :
    Calls Try.prog 21 #[.pointer (some ⟨B, 0, none⟩)] w fun e w' => e = .returned (.tuple #[]) ∧ ∃ v, AInv B base v0 n acc nb xs w ((nb + 7) / 8) v (acc / 256 ^ ((nb + 7) / 8)) 0 w' := by
  have lB : B < w.heap.size := World.block_lt_of_cell? w _ h0.c3
  obtain ⟨i0, hi0, hz0, hz1, hz2⟩ := info_parts Try.info5
  go_enter Try.func21, Try.ntmps21
  go_wp2
  go_loopg [] nb (fun k wr => ∃ j v a, (k = nb - 8 * j ∧ 8 * j < nb + 8) ∧ AInv B base v0 n acc nb xs w j v a k wr)
  case atStart => exact ⟨0, v0, acc, ⟨rfl, by omega⟩, h0⟩
  case round =>
    obtain ⟨j, v, a, hgk, hI⟩ := hrel
    have HI : Hid ((gk = nb - 8 * j ∧ 8 * j < nb + 8) ∧ AInv B base v0 n acc nb xs w j v a gk wr) := ⟨hgk, hI⟩
    have h3 := hI.c3
    have h4 := hI.c4
    have h5 := hI.c5
    have f3 := hI.f3
    have f4 := hI.f4
    have f5 := hI.f5
    have hown := hI.own
    have ag := hI.far
    have ha : a < 18446744073709551616 := by rw [hI.av]; exact Nat.lt_of_le_of_lt (Nat.div_le_self _ _) hacc
    have lB' : B < wr.heap.size := World.block_lt_of_cell? wr _ h3
    have hm : gk ≤ 65536 := by omega
    have hbs : base ≤ wr.heap.size := by have := hI.kept.size; omega
    clear hI hgk
    by_cases hpos : 0 < gk
    · have hj : j ≤ 65536 := by have := HI.out.1; omega
      have hmx : n + j + 1 ≤ maxLen := by unfold maxLen; omega
      go_wp2
      go_region_law ((refine step_append_lies _ (by rfl) _ _ _ (by rfl) base 5 i0 _ 1 1 Try.underlying31 hi0 hz0 hz1 hz2 rfl (by omega) v (n + j) ((xs ++ bytesAt acc j).map (Value.int .u8)) (by rfl) ((hown.alloc _).drew) ⟨wr.heap.size, 0, none⟩ 1 1 [.int .u8 (IntKind.u8.wrap a)] (by rfl) (by rfl) (World.news_of_block (cs := #[.int .u8 (IntKind.u8.wrap a)]) (t := 5) (fr := (0, 0)) (heap_alloc_new wr _)) (by simp [Value.oneCell']) (by omega) hmx (by omega) (by simp; omega) (wr.heap.size + 1) (by simp) ?_; intro gg cap w1 hown1 hgrow hat hlt; have k3 : w1.cell? ⟨B, 317, none⟩ = some v := (by rw [hgrow.cell_far _ (by simp; omega) (Ne.symm ag)]; simpa [go_sem, World.cell?_alloc_past, lB'] using h3); have g3 : w1.frozen? ⟨B, 317, none⟩ = false := (by rw [hgrow.frozen_far _ (by simp; omega) (Ne.symm ag)]; simpa [go_sem, World.frozen?_alloc_past, lB'] using f3)))
      all_goals
        have k4 : w1.cell? ⟨B, 318, none⟩ = some (.int .u64 a) := (by rw [hgrow.cell_far _ (by simp; omega) (Ne.symm ag)]; simpa [go_sem, World.cell?_alloc_past, lB'] using h4)
        have g4 : w1.frozen? ⟨B, 318, none⟩ = false := (by rw [hgrow.frozen_far _ (by simp; omega) (Ne.symm ag)]; simpa [go_sem, World.frozen?_alloc_past, lB'] using f4)
        have k5 : w1.cell? ⟨B, 319, none⟩ = some (.int .u64 gk) := (by rw [hgrow.cell_far _ (by simp; omega) (Ne.symm ag)]; simpa [go_sem, World.cell?_alloc_past, lB'] using h5)
        have g5 : w1.frozen? ⟨B, 319, none⟩ = false := (by rw [hgrow.frozen_far _ (by simp; omega) (Ne.symm ag)]; simpa [go_sem, World.frozen?_alloc_past, lB'] using f5)
        have HR : Hid (AInv B base v0 n acc nb xs w (j + 1) (.slice (some ⟨gg, 0, none⟩) (n + j + 1) cap) (a / 256) (gk - 8)
          ((((w1.setCell ⟨B, 317, none⟩ (.slice (some ⟨gg, 0, none⟩) (n + j + 1) cap)).setCell ⟨B, 318, none⟩ (.int .u64 ((a / 256 : Nat) : Int))).setCell ⟨B, 319, none⟩ (.int .u64 ((gk - 8 : Nat) : Int))).drew)) :=
            HI.out.2.next (wrap_u8_nat a) lB hown1 hgrow hat k3 k4 k5 g3 g4 g5
        clear h3 h4 h5 f3 f4 f5 hown hown1 hgrow hat ag
        go_wp2
        go_region
        all_goals go_wp2
        all_goals go_roundg (gk - 8)
        all_goals first
          | (case measure => omega)
          | (have e1 : ((a / 256 : Nat) : Int) = (a : Int) / 256 := by omega
             first
               | (have e2 : ((gk - 8 : Nat) : Int) = (gk : Int) - 8 := by omega
                  have hr := HR.out
                  rw [e1, e2] at hr
                  exact ⟨j + 1, _, a / 256, by have := HI.out.1; omega, hr⟩)
               | (have e2 : ((gk - 8 : Nat) : Int) = 0 := by omega
                  have hr := HR.out
                  rw [e1, e2] at hr
                  exact ⟨j + 1, _, a / 256, by have := HI.out.1; omega, hr⟩))
    · have : gk = 0 := by omega
      subst this
      go_wp2
      go_end0
      obtain ⟨h1, h2⟩ := HI.out
      have ej : (nb + 7) / 8 = j := by omega
      refine ⟨rfl, v, ?_⟩
      rw [ej, ← h2.av]
      exact h2
end Go.Proofs.Qxb6605568a
