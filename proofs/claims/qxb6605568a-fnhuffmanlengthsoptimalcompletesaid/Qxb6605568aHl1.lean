/-
  huffmanLengths, the first pass: what stands in memory at a round's head ('L1') and behind the round's first choice ('L1m'); what each way of the round does to it.
-/
import Derived.Test.Qxb6605568aRow
namespace Go.Proofs.Qxb6605568a
open Go.RowKit Huff
set_option linter.unusedVariables false

def L1 (ws : List Nat) (g : Nat) (w : World) (p lf t : Nat) (wr : World) : Prop :=
  ∃ j s, t = j + 1 ∧ s = sim ws j ∧ j + 1 < ws.length ∧ s.P.length = p ∧ s.leaf = lf ∧ Inv ws t s ∧ Row .u32 25 g w (arr ws s.P s.I t) wr

def L1m (ws : List Nat) (g : Nat) (w : World) (p lf t x : Nat) (wr : World) : Prop :=
  ∃ j s, t = j + 1 ∧ j + 2 < ws.length ∧ pick ws t (sim ws j) = (x, s) ∧ s.P.length = p ∧ s.leaf = lf ∧ Mid ws t 1 x s ∧ Row .u32 25 g w (arr1 ws s.P s.I x t) wr

theorem le_sum : ∀ (l : List Nat) (x : Nat), x ∈ l → x ≤ l.sum
  | [], x, h => by simp at h
  | y :: r, x, h => by
    rcases List.mem_cons.1 h with h | h
    · subst h; simp
    · have := le_sum r x h; simp; omega

/-- What the round reads. -/
theorem L1.facts {ws : List Nat} {g : Nat} {w : World} {p lf t : Nat} {wr : World} (h : L1 ws g w p lf t wr) (hs : ws.sum < 4294967296) :
    ∃ x y, y = ws.getD lf 0 ∧ p < t ∧ t < lf ∧ lf ≤ ws.length ∧ x < 4294967296 ∧ y < 4294967296 ∧ (lf < ws.length → x + y < 4294967296) ∧
      wr.cell? ⟨g, p, none⟩ = some (.int .u32 (x : Int)) ∧ (lf < ws.length → wr.cell? ⟨g, lf, none⟩ = some (.int .u32 (y : Int))) ∧ (t < ws.length → ∃ z : Int, wr.cell? ⟨g, t, none⟩ = some (.int .u32 z)) ∧
      (∀ i, wr.frozen? ⟨g, i, none⟩ = false) ∧
      (∀ q, t + 1 < ws.length → (ws.length ≤ lf ∨ x < y) → L1m ws g w (p + 1) lf t x (((wr.drewN q).setCell ⟨g, t, none⟩ (.int .u32 (x : Int))).setCell ⟨g, p, none⟩ (.int .u32 (t : Int)))) ∧
      (∀ q, t + 1 < ws.length → ¬ (ws.length ≤ lf ∨ x < y) → L1m ws g w p (lf + 1) t y ((wr.drewN q).setCell ⟨g, t, none⟩ (.int .u32 (y : Int)))) := by
  obtain ⟨j, ⟨P, I, leaf⟩, rfl, hsim, hj, hp, hl, hI, hR⟩ := h
  simp only at hp hl hR
  subst hp hl
  have h1 := hI.len
  have h2 := hI.pos
  have h3 := hI.cnt
  have h4 := hI.le
  have h5 := hI.sum
  simp only at h1 h2 h3 h4 h5
  obtain ⟨x, r, rfl⟩ : ∃ x r, I = x :: r := by
    cases I with
    | nil => simp at h2
    | cons x r => exact ⟨x, r, rfl⟩
  have hlen := arr_length (w := ws) h1 (by omega)
  have hx : x + r.sum + (ws.drop leaf).sum = ws.sum := by simpa using h5
  have hy : ws.getD leaf 0 < 4294967296 := by
    by_cases hl : leaf < ws.length
    · have := sum_drop ws leaf hl; omega
    · simp only [List.getD, List.getElem?_eq_none (Nat.le_of_not_lt hl), Option.getD_none]; omega
  refine ⟨x, ws.getD leaf 0, rfl, by simp at h1; omega, by simp at h1; omega, h4, by omega, hy, ?_, ?_, ?_, ?_, hR.frozen, ?_, ?_⟩
  · intro hl; have := sum_drop ws leaf hl; omega
  · have := hR.cell P.length (by rw [hlen]; simp at h1; omega)
    rwa [arr_root] at this
  · intro hl
    have := hR.cell leaf (by rw [hlen]; exact hl)
    rwa [arr_leaf h1 (by simp at h1; omega)] at this
  · intro ht
    exact ⟨_, hR.cell (j + 1) (by rw [hlen]; exact ht)⟩
  · intro q ht hc
    have hpk := pick_root (w := ws) (t := j + 1) (P := P) (r := r) hc
    have hm := hI.mid.pick (by omega)
    rw [hpk] at hm
    simp only [Nat.zero_add] at hm
    refine ⟨j, ⟨P ++ [j + 1], r, leaf⟩, rfl, by omega, by rw [← hsim]; exact hpk, by simp, rfl, hm, ?_⟩
    have := ((hR.drewN q).set (j + 1) x x rfl).set P.length (j + 1) ((j + 1 : Nat) : Int) rfl
    rwa [arr_take h1 (by omega)] at this
  · intro q ht hc
    have hpk := pick_leaf (w := ws) (t := j + 1) (P := P) (I := x :: r) (leaf := leaf) (fun x' r' e => by
      simp only [List.cons.injEq] at e
      obtain ⟨rfl, rfl⟩ := e
      exact hc)
    have hm := hI.mid.pick (by omega)
    rw [hpk] at hm
    simp only [Nat.zero_add] at hm
    refine ⟨j, ⟨P, x :: r, leaf + 1⟩, rfl, by omega, by rw [← hsim]; exact hpk, rfl, rfl, hm, ?_⟩
    have := (hR.drewN q).set (j + 1) (ws.getD leaf 0) _ rfl
    rwa [arr_put h1 (by omega)] at this

/-- What the second choice reads, and what it leaves. -/
theorem L1m.facts {ws : List Nat} {g : Nat} {w : World} {p lf t v : Nat} {wr : World} (h : L1m ws g w p lf t v wr) (hs : ws.sum < 4294967296) :
    ∃ x y, y = ws.getD lf 0 ∧ p ≤ t ∧ t < lf ∧ lf ≤ ws.length ∧ (ws.length ≤ lf → p < t) ∧ v < 4294967296 ∧ x < 4294967296 ∧ y < 4294967296 ∧ (p < t → v + x < 4294967296) ∧ (lf < ws.length → v + y < 4294967296) ∧
      (p < t → wr.cell? ⟨g, p, none⟩ = some (.int .u32 (x : Int))) ∧ (lf < ws.length → wr.cell? ⟨g, lf, none⟩ = some (.int .u32 (y : Int))) ∧ wr.cell? ⟨g, t, none⟩ = some (.int .u32 (v : Int)) ∧
      (∀ i, wr.frozen? ⟨g, i, none⟩ = false) ∧
      (∀ q, (ws.length ≤ lf ∨ (p < t ∧ x < y)) → L1 ws g w (p + 1) lf (t + 1) (((wr.drewN q).setCell ⟨g, t, none⟩ (.int .u32 ((v : Int) + (x : Int)))).setCell ⟨g, p, none⟩ (.int .u32 (t : Int)))) ∧
      (∀ q, ¬ (ws.length ≤ lf ∨ (p < t ∧ x < y)) → L1 ws g w p (lf + 1) (t + 1) ((wr.drewN q).setCell ⟨g, t, none⟩ (.int .u32 ((v : Int) + (y : Int))))) := by
  obtain ⟨j, ⟨P, I, leaf⟩, rfl, hj, hpk, hp, hl, hM, hR⟩ := h
  simp only at hp hl hR
  subst hp hl
  have h1 := hM.len
  have h3 := hM.cnt
  have h4 := hM.le
  have h5 := hM.sum
  simp only at h1 h3 h4 h5
  have hlen := arr1_length (w := ws) (x := v) h1 (by omega)
  have hy : ws.getD leaf 0 ≤ (ws.drop leaf).sum := by
    by_cases hl : leaf < ws.length
    · have := sum_drop ws leaf hl; omega
    · simp only [List.getD, List.getElem?_eq_none (Nat.le_of_not_lt hl), Option.getD_none]; omega
  obtain ⟨x, hx⟩ : ∃ x, x = I.headD 0 := ⟨_, rfl⟩
  have hxs : x ≤ I.sum := by
    subst hx
    cases I with
    | nil => simp
    | cons a r => simp
  have hip : P.length < j + 1 ↔ ∃ r, I = x :: r := by
    subst hx
    cases I with
    | nil => simp at h1 ⊢; omega
    | cons a r => simp at h1 ⊢; omega
  have hinv := (inv_sim ws (by omega) j (by omega)).step (w := ws) (by omega)
  refine ⟨x, ws.getD leaf 0, rfl, by omega, by omega, h4, by omega, by omega, by omega, by omega, by omega, by omega, ?_, ?_, ?_, hR.frozen, ?_, ?_⟩
  · intro h
    obtain ⟨r, rfl⟩ := hip.1 h
    have := hR.cell P.length (by rw [hlen]; omega)
    rwa [arr1_root] at this
  · intro hl
    have := hR.cell leaf (by rw [hlen]; exact hl)
    rwa [arr1_leaf h1 (by omega)] at this
  · have := hR.cell (j + 1) (by rw [hlen]; omega)
    rwa [arr1_next h1] at this
  · intro q hc
    obtain ⟨r, rfl⟩ := hip.1 (by omega)
    have hpk2 := pick_root (w := ws) (t := j + 1) (P := P) (r := r) (x := x) (leaf := leaf) (by omega)
    have hst : sim ws (j + 1) = ⟨P ++ [j + 1], r ++ [v + x], leaf⟩ := by
      simp only [sim, Huff.step, hpk, hpk2]
    refine ⟨j + 1, ⟨P ++ [j + 1], r ++ [v + x], leaf⟩, rfl, hst.symm, by omega, by simp, rfl, ?_, ?_⟩
    · rw [← hst]; exact hinv
    · have := ((hR.drewN q).set (j + 1) (v + x) ((v : Int) + x) (by omega)).set P.length (j + 1) ((j + 1 : Nat) : Int) rfl
      rwa [arr1_take h1] at this
  · intro q hc
    have hpk2 := pick_leaf (w := ws) (t := j + 1) (P := P) (I := I) (leaf := leaf) (fun x' r' e => by
      have e' : x' = x := by rw [hx, e]; rfl
      subst e'
      have := hip.2 ⟨r', e⟩
      omega)
    have hst : sim ws (j + 1) = ⟨P, I ++ [v + ws.getD leaf 0], leaf + 1⟩ := by
      simp only [sim, Huff.step, hpk, hpk2]
    refine ⟨j + 1, ⟨P, I ++ [v + ws.getD leaf 0], leaf + 1⟩, rfl, hst.symm, by omega, rfl, rfl, ?_, ?_⟩
    · rw [← hst]; exact hinv
    · have := (hR.drewN q).set (j + 1) (v + ws.getD leaf 0) ((v : Int) + (ws.getD leaf 0 : Nat)) (by omega)
      rwa [arr1_put h1] at this
end Go.Proofs.Qxb6605568a
