/-
  FnHex4ReadsBackWhatIsWritten (function 4): the road.
-/
import Derived.Test.Qxb6605588aRb
namespace Go.Proofs.Qxb6605588a
open Go.RowKit
set_option linter.unusedVariables false

/-- The two slices that are being written: kl, ku bytes of them. -/
structure Two (H C kl ku : Nat) (lo up : List Int) (w0 wr : World) : Prop where
  lo : wr.ownsRow H 5 1 (.slice (some ⟨H, 0, none⟩) kl C) kl (lo.map (Value.int .u8))
  up : wr.ownsRow H 5 1 (.slice (some ⟨H + 1, 0, none⟩) ku C) ku (up.map (Value.int .u8))
  bel : Below H w0 wr
  size : H + 2 ≤ wr.heap.size

theorem Two.putLo {H C kl ku : Nat} {lo up : List Int} {w0 wr w1 : World} {o : Obj} {x : Int} (h : Two H C kl ku lo up w0 wr) (h1 : w1.ownsRow H 5 1 (.slice (some ⟨H, 0, none⟩) (kl + 1) C) (kl + 1) (lo.map (Value.int .u8) ++ [.int .u8 x])) (hg : (wr.alloc o).grownBy w1 (some H)) :
    Two H C (kl + 1) ku (lo ++ [x]) up w0 w1 := by
  have hs := h.size
  refine ⟨by simpa using h1, (h.up.alloc o).kept hg (.inr (by simp [Value.ownBlock])), (h.bel.alloc (by omega) o).grown hg (by simp; omega) (by intro k hk; simp at hk; omega), ?_⟩
  have := hg.size
  simp at this
  omega
theorem Two.putUp {H C kl ku : Nat} {lo up : List Int} {w0 wr w1 : World} {o : Obj} {x : Int} (h : Two H C kl ku lo up w0 wr) (h1 : w1.ownsRow H 5 1 (.slice (some ⟨H + 1, 0, none⟩) (ku + 1) C) (ku + 1) (up.map (Value.int .u8) ++ [.int .u8 x])) (hg : (wr.alloc o).grownBy w1 (some (H + 1))) :
    Two H C kl (ku + 1) lo (up ++ [x]) w0 w1 := by
  have hs := h.size
  refine ⟨(h.lo.alloc o).kept hg (.inr (by simp [Value.ownBlock])), by simpa using h1, (h.bel.alloc (by omega) o).grown hg (by simp; omega) (by intro k hk; simp at hk; omega), ?_⟩
  have := hg.size
  simp at this
  omega

/-- The first k digits, by f. -/
def digs (f : Nat → Nat) (V k : Nat) : List Int := (List.range k).map fun j => ((f (nib V j) : Nat) : Int)
theorem digs_succ (f : Nat → Nat) (V k : Nat) : digs f V (k + 1) = digs f V k ++ [((f (nib V k) : Nat) : Int)] := by simp [digs, List.range_succ]
theorem digs_get (f : Nat → Nat) (V : Nat) (rest : List Int) (i : Nat) (h : i < 4) : (digs f V 4 ++ rest)[i]? = some ((f (nib V i) : Nat) : Int) := by
  rw [List.getElem?_append_left (by simp [digs]; exact h)]
  simp [digs, h]

set_option maxRecDepth 100000 in
set_option maxHeartbeats 4000000 in
theorem rb_main (a : Option Addr) (b off n cap0 V : Nat) (w : World) (hn : n ≤ 1048576) (hV : V < 65536) (hb : 0 < n → b < w.heap.size) (HA : Hid (0 < n → a = some ⟨b, off, none⟩))
    (HC : Hid (∀ i, i < n → ∃ z : Int, w.cell? ⟨b, off + i, none⟩ = some (.int .u8 z))) :
    Calls Try.prog 4 #[.int .u16 V, .slice a n cap0] w fun e w' => e = .returned (.bool true) ∧ Below w.heap.size w w' := by
  obtain ⟨i0, hi0, hz0, hz1, hz2⟩ := info_parts Try.info5
  obtain ⟨C, hC⟩ : ∃ C, C = 4 + n := ⟨_, rfl⟩
  have eC : (4 : Int) + (n : Int) = (C : Int) := by omega
  have mk := make22c C (by omega)
  have hC1 : n + 4 ≤ C := by omega
  have hC2 : C ≤ 1048580 := by omega
  clear hC
  obtain ⟨H, hH⟩ : ∃ H, H = w.heap.size := ⟨_, rfl⟩
  have HT0 : Hid (Two H C 0 0 (digs lowB V 0) (digs upB V 0) w ((w.alloc (.cells (cellsOf .u8 (List.replicate C 0)) 5)).alloc (.cells (cellsOf .u8 (List.replicate C 0)) 5))) := by
    rw [hH]
    refine ⟨⟨by simp [digs], .inr ⟨w.heap.size, C, cellsOf .u8 (List.replicate C 0), rfl, Nat.le_refl _, heap_alloc2_old w _ _, by omega, by unfold maxLen; omega, by rw [cellsOf_size]; simp, by simp [digs]⟩⟩,
      ⟨by simp [digs], .inr ⟨w.heap.size + 1, C, cellsOf .u8 (List.replicate C 0), rfl, by omega, heap_alloc2_new w _ _, by omega, by unfold maxLen; omega, by rw [cellsOf_size]; simp, by simp [digs]⟩⟩,
      ((Below.refl _ _).alloc (Nat.le_refl _) _).alloc (by simp) _, by simp⟩
  go_enter Try.func4, Try.ntmps4
  go_wp2
  rw [← hH] at hb ⊢
  generalize (w.alloc (.cells (cellsOf .u8 (List.replicate C 0)) 5)).alloc (.cells (cellsOf .u8 (List.replicate C 0)) 5) = W0 at HT0 ⊢
  clear mk
  have HHW : Hid (H = w.heap.size) := hH
  clear hH
  go_loopg [5, 6, 7, 8, 9] 4 (fun g s5 s6 s7 s8 s9 wx => ∃ k : Nat, s5 = .slice (some ⟨H, 0, none⟩) k C ∧ s6 = .slice (some ⟨H + 1, 0, none⟩) k C ∧ s7 = .int .i64 k ∧ (k + g ≤ 4 ∧ 4 ≤ k + g) ∧ Hid (Two H C k k (digs lowB V k) (digs upB V k) w wx))
  case atStart => exact ⟨0, rfl, rfl, rfl, by omega, HT0⟩
  case round =>
    clear HT0
    obtain ⟨k, rfl, rfl, rfl, ⟨hk1, hk2⟩, HT⟩ := hrel
    by_cases hin : k < 4
    · obtain ⟨m, hm⟩ : ∃ m, m = nib V k := ⟨_, rfl⟩
      have hm16 : m < 16 := by rw [hm]; exact Nat.mod_lt _ (by omega)
      have em : bits .and .u16 ((V : Int) / 2 ^ (12 - 4 * k)) 15 = (m : Int) := by rw [hm]; exact nib_bits V k hV hin
      have la := low_at m hm16
      have ua := up_at m hm16
      have hl := lowB_lt m hm16
      have hu := upB_lt m hm16
      have HM : Hid (m = nib V k) := hm
      have hown := HT.out.lo
      clear hm
      go_wp2_with (at_builtin; refine wpList_append_fits _ rfl (.tmp 40) (.tmp 43) 22 rfl H 5 i0 1 Try.underlying22 hi0 hz1 H k C _ (by rfl) (hown.alloc _) ⟨wr.heap.size, 0, none⟩ 1 1 [.int .u8 ((lowB m : Nat) : Int)] (by rfl) (by rfl) (by exact World.news_of_block (cs := #[.int .u8 ((lowB m : Nat) : Int)]) (t := 5) (fr := (0, 0)) (heap_alloc_new wr _)) (by simp [Value.oneCell']) (by omega) ?_)
      intro w1 h1 hg1
      have HT1 : Hid (Two H C (k + 1) k (digs lowB V (k + 1)) (digs upB V k) w w1) := by
        have := HT.out.putLo h1 hg1
        rw [HM.out, ← digs_succ] at this
        exact this
      have hown1 := HT1.out.up
      clear h1 hg1 hown HT la hl
      go_wp2_with (at_builtin; refine wpList_append_fits _ rfl (.tmp 45) (.tmp 48) 22 rfl H 5 i0 1 Try.underlying22 hi0 hz1 (H + 1) k C _ (by rfl) (hown1.alloc _) ⟨w1.heap.size, 0, none⟩ 1 1 [.int .u8 ((upB m : Nat) : Int)] (by rfl) (by rfl) (by exact World.news_of_block (cs := #[.int .u8 ((upB m : Nat) : Int)]) (t := 5) (fr := (0, 0)) (heap_alloc_new w1 _)) (by simp [Value.oneCell']) (by omega) ?_)
      intro w2 h2 hg2
      have HT2 : Hid (Two H C (k + 1) (k + 1) (digs lowB V (k + 1)) (digs upB V (k + 1)) w w2) := by
        have := HT1.out.putUp h2 hg2
        rw [HM.out, ← digs_succ] at this
        exact this
      clear h2 hg2 hown1 HT1 ua hu em HM
      go_wp2
      go_roundg (gk - 1)
      case measure => omega
      case rel => exact ⟨k + 1, rfl, rfl, by go_num, by omega, HT2⟩
    · have hk4 : k = 4 := by omega
      subst hk4
      clear hk1 hk2 hin
      go_wp2
      go_loopg [5, 6, 10] n (fun g s5 s6 s10 wx => ∃ i : Nat, s5 = .slice (some ⟨H, 0, none⟩) (4 + i) C ∧ s6 = .slice (some ⟨H + 1, 0, none⟩) (4 + i) C ∧ s10 = .int .i64 i ∧ (i + g ≤ n ∧ n ≤ i + g) ∧ ∃ rest, Hid (Two H C (4 + i) (4 + i) (digs lowB V 4 ++ rest) (digs upB V 4 ++ rest) w wx))
      case atStart => exact ⟨0, rfl, rfl, rfl, by omega, [], by simpa [Hid] using HT.out⟩
      case round =>
        clear HT
        obtain ⟨i, rfl, rfl, rfl, ⟨hi1, hi2⟩, rest, HT⟩ := hrel
        by_cases hin : i < n
        · have ha := HA.out (by omega)
          obtain ⟨z, cz0⟩ := HC.out i hin
          have cz : wr.cell? ⟨b, off + i, none⟩ = some (.int .u8 z) := by
            rw [HT.out.bel.cell (p := ⟨b, off + i, none⟩) (hb (by omega))]; exact cz0
          have i1 : (i : Int) < (n : Int) := by omega
          have hown := HT.out.lo
          subst ha
          clear cz0
          go_wp2_with (at_builtin; refine wpList_append_fits _ rfl (.tmp 56) (.tmp 61) 22 rfl H 5 i0 1 Try.underlying22 hi0 hz1 H (4 + i) C _ (by rfl) (hown.alloc _) ⟨wr.heap.size, 0, none⟩ 1 1 [.int .u8 z] (by rfl) (by rfl) (by exact World.news_of_block (cs := #[.int .u8 z]) (t := 5) (fr := (0, 0)) (heap_alloc_new wr _)) (by simp [Value.oneCell']) (by omega) ?_)
          intro w1 h1 hg1
          have HT1 : Hid (Two H C (4 + i + 1) (4 + i) (digs lowB V 4 ++ rest ++ [z]) (digs upB V 4 ++ rest) w w1) := HT.out.putLo h1 hg1
          have cz1 : w1.cell? ⟨b, off + i, none⟩ = some (.int .u8 z) := by
            rw [HT1.out.bel.cell (p := ⟨b, off + i, none⟩) (hb (by omega)), ← HT.out.bel.cell (p := ⟨b, off + i, none⟩) (hb (by omega))]; exact cz
          have hown1 := HT1.out.up
          clear h1 hg1 hown HT cz
          go_wp2_with (at_builtin; refine wpList_append_fits _ rfl (.tmp 63) (.tmp 68) 22 rfl H 5 i0 1 Try.underlying22 hi0 hz1 (H + 1) (4 + i) C _ (by rfl) (hown1.alloc _) ⟨w1.heap.size, 0, none⟩ 1 1 [.int .u8 z] (by rfl) (by rfl) (by exact World.news_of_block (cs := #[.int .u8 z]) (t := 5) (fr := (0, 0)) (heap_alloc_new w1 _)) (by simp [Value.oneCell']) (by omega) ?_)
          intro w2 h2 hg2
          have HT2 : Hid (Two H C (4 + (i + 1)) (4 + (i + 1)) (digs lowB V 4 ++ (rest ++ [z])) (digs upB V 4 ++ (rest ++ [z])) w w2) := by
            have := HT1.out.putUp h2 hg2
            simpa [Nat.add_assoc, Hid] using this
          clear h2 hg2 hown1 HT1 cz1
          go_wp2
          go_roundg (gk - 1)
          case measure => omega
          case rel => exact ⟨i + 1, rfl, rfl, by go_num, by omega, rest ++ [z], HT2⟩
        · have HL : Hid (∀ j, j < 4 → wr.cell? ⟨H, j, none⟩ = some (.int .u8 ((lowB (nib V j) : Nat) : Int))) := fun j hj => by
            rw [HT.out.lo.cellAt j (by omega), List.getElem?_map, digs_get lowB V rest j hj]
            rfl
          have HU : Hid (∀ j, j < 4 → wr.cell? ⟨H + 1, j, none⟩ = some (.int .u8 ((upB (nib V j) : Nat) : Int))) := fun j hj => by
            rw [HT.out.up.cellAt j (by omega), List.getElem?_map, digs_get upB V rest j hj]
            rfl
          have HB : Hid (Below H w wr) := HT.out.bel
          have hnib : ∀ j, nib V j < 16 := fun j => Nat.mod_lt _ (by omega)
          have HDL : Hid (∀ j, j < 4 → Dig (lowB (nib V j)) (nib V j)) := fun j _ => dig_low _ (hnib j)
          have HDU : Hid (∀ j, j < 4 → Dig (upB (nib V j)) (nib V j)) := fun j _ => dig_up _ (hnib j)
          clear hnib HT
          go_wp2_with fail
          refine (zzhex4_any H (4 + i) C (fun j => lowB (nib V j)) (nib V) wr (by omega) (by omega) (by unfold maxLen; omega) HL HDL).mono ?_
          rw [nib_val V hV]
          rintro e w1 ⟨rfl, rfl⟩
          go_wp2_with fail
          refine (zzhex4_any (H + 1) (4 + i) C (fun j => upB (nib V j)) (nib V) _ (by omega) (by omega) (by unfold maxLen; omega) HU HDU).mono ?_
          rw [nib_val V hV]
          rintro e w2 ⟨rfl, rfl⟩
          go_wp2
          go_ret
          exact ⟨by simp, by rw [← HHW.out]; exact HB.out⟩
end Go.Proofs.Qxb6605588a
