/-
  huffmanLengths, the second and the third pass: what stands in memory.
-/
import Derived.Test.Qxb6605568aHl1
namespace Go.Proofs.Qxb6605568a
open Go.RowKit Huff
set_option linter.unusedVariables false

/-- The second pass: the nodes from i on have their depths, those below i their parents. -/
def L2 (ws : List Nat) (g : Nat) (w : World) (i : Nat) (wr : World) : Prop :=
  Row .u32 25 g w ((parents ws).take i ++ ((depths 0 (parents ws)).drop i ++ ws.drop (ws.length - 1))) wr

theorem L1.end' {ws : List Nat} {g : Nat} {w : World} {p lf t : Nat} {wr : World} (h : L1 ws g w p lf t wr) (ht : t + 1 = ws.length) :
    (∃ z : Int, wr.cell? ⟨g, t - 1, none⟩ = some (.int .u32 z)) ∧ wr.frozen? ⟨g, t - 1, none⟩ = false ∧ L2 ws g w (t - 1) (wr.setCell ⟨g, t - 1, none⟩ (.int .u32 0)) := by
  obtain ⟨j, s, rfl, hsim, hj, hp, hl, hI, hR⟩ := h
  have hj' : j = ws.length - 2 := by omega
  have hw : 2 ≤ ws.length := by omega
  have hlen := arr_length (w := ws) hI.len (by omega)
  have he := sim_end ws hw
  subst hsim
  rw [hj'] at hR
  have hP : (sim ws (ws.length - 2)).P = parents ws := rfl
  rw [hP] at hR he
  obtain ⟨W, hW⟩ : ∃ W, (sim ws (ws.length - 2)).I = [W] := by
    have := he.2.1
    match h : (sim ws (ws.length - 2)).I, this with
    | [W], _ => exact ⟨W, rfl⟩
  rw [hW] at hR
  simp only [Nat.add_sub_cancel, hj']
  have hl2 : (arr ws (parents ws) [W] (ws.length - 2 + 1)).length = ws.length := by
    exact arr_length (by simp; omega) (by omega)
  refine ⟨⟨_, hR.cell _ (by rw [hl2]; omega)⟩, hR.frozen _, ?_⟩
  have hs := hR.set (ws.length - 2) 0 0 rfl
  have hd : (depths 0 (parents ws)).drop (ws.length - 2) = [0] := by
    rw [depths_drop _ _ _ (by omega), List.drop_of_length_le (by omega)]
    rfl
  unfold L2
  rw [List.take_of_length_le (by omega), hd]
  have e : (arr ws (parents ws) [W] (ws.length - 2 + 1)).set (ws.length - 2) 0 = parents ws ++ ([0] ++ ws.drop (ws.length - 1)) := by
    rw [arr, List.singleton_append, set_mid (parents ws) _ W 0 _ he.1.symm, show ws.length - 2 + 1 = ws.length - 1 from by omega]
    rfl
  rw [e] at hs
  exact hs

theorem L2.facts {ws : List Nat} {g : Nat} {w : World} {u : Nat} {wr : World} (h : L2 ws g w (u + 1) wr) (hw : 2 ≤ ws.length) (hu : u + 2 < ws.length) :
    ∃ q d, u < q ∧ q + 1 < ws.length ∧ d + 1 < ws.length ∧ wr.cell? ⟨g, u, none⟩ = some (.int .u32 ((q : Nat) : Int)) ∧ wr.cell? ⟨g, q, none⟩ = some (.int .u32 ((d : Nat) : Int)) ∧ wr.frozen? ⟨g, u, none⟩ = false ∧
      L2 ws g w u (wr.setCell ⟨g, u, none⟩ (.int .u32 ((d : Int) + 1))) := by
  have hP := par_parents ws hw
  have hD := dep_depths hP
  have hpl := hP.len
  have hdl := hD.len
  unfold L2 at h
  generalize hPe : parents ws = P at *
  generalize hDe : depths 0 P = D at *
  have hq := par_get hP u (by omega)
  have hle := dep_le hP hD (ws.length - 2) (P.getD u 0) (by omega) hq.2
  have hup := hD.up u (by omega)
  have hlen : (P.take (u + 1) ++ (D.drop (u + 1) ++ ws.drop (ws.length - 1))).length = ws.length := by simp; omega
  have g1 : (P.take (u + 1) ++ (D.drop (u + 1) ++ ws.drop (ws.length - 1))).getD u 0 = P.getD u 0 := by
    simp only [List.getD]
    rw [List.getElem?_append_left (by simp; omega), List.getElem?_take_of_lt (by omega)]
  have g2 : (P.take (u + 1) ++ (D.drop (u + 1) ++ ws.drop (ws.length - 1))).getD (P.getD u 0) 0 = D.getD (P.getD u 0) 0 := by
    generalize P.getD u 0 = q at *
    simp only [List.getD]
    rw [List.getElem?_append_right (by simp; omega), List.getElem?_append_left (by simp; omega), List.getElem?_drop]
    congr 2
    simp
    omega
  refine ⟨P.getD u 0, D.getD (P.getD u 0) 0, hq.1, by omega, by omega, ?_, ?_, h.frozen u, ?_⟩
  · have := h.cell u (by rw [hlen]; omega)
    rwa [g1] at this
  · have := h.cell (P.getD u 0) (by rw [hlen]; omega)
    rwa [g2] at this
  · have hs := h.set u (D.getD (P.getD u 0) 0 + 1) ((D.getD (P.getD u 0) 0 : Nat) + 1) (by omega)
    rw [← hup] at hs
    unfold L2
    rw [hPe, hDe]
    have e : (P.take (u + 1) ++ (D.drop (u + 1) ++ ws.drop (ws.length - 1))).set u (D.getD u 0) = P.take u ++ (D.drop u ++ ws.drop (ws.length - 1)) := by
      rw [List.take_succ_eq_append_getElem (by omega), List.append_assoc, List.singleton_append, set_mid _ _ _ _ _ (by simp; omega), drop_cons D u (by omega)]
      rfl
    rw [e] at hs
    exact hs

/-- The third pass, at depth d: s leaves of that depth have been laid; rt internal nodes have not been counted yet; nx leaves have not been laid yet. -/
def L3 (m : Nat) (D : List Nat) (g : Nat) (w : World) (d s rt nx : Nat) (wr : World) : Prop :=
  ∃ X, Row .u32 25 g w X wr ∧ X.length = m + 2 ∧ X.take rt = D.take rt ∧ X.drop nx = List.replicate s d ++ lensTo D d ∧ nx + s + (lensTo D d).length = m + 2 ∧ rt ≤ D.length

theorem L2.end' {ws : List Nat} {g : Nat} {w : World} {wr : World} (h : L2 ws g w 0 wr) (hw : 2 ≤ ws.length) : L3 (ws.length - 2) (depths 0 (parents ws)) g w 0 0 (ws.length - 1) ws.length wr := by
  have hP := par_parents ws hw
  have hD := dep_depths hP
  have hdl := hD.len
  unfold L2 at h
  generalize depths 0 (parents ws) = D at *
  simp only [List.take_zero, List.drop_zero, List.nil_append] at h
  refine ⟨_, h, by simp; omega, ?_, ?_, by simp [lensTo]; omega, by omega⟩
  · rw [List.take_append_of_le_length (by omega)]
  · rw [List.drop_of_length_le (by simp; omega)]
    simp [lensTo]

section
variable {m : Nat} {D : List Nat} {g : Nat} {w wr : World} {d s rt nx : Nat}
theorem L3.read (h : L3 m D g w d s rt nx wr) (hr : 1 ≤ rt) : wr.cell? ⟨g, rt - 1, none⟩ = some (.int .u32 ((D.getD (rt - 1) 0 : Nat) : Int)) := by
  obtain ⟨X, hR, hX, ht, hd, hn, hrt⟩ := h
  have hl := congrArg List.length ht
  simp at hl
  have := hR.cell (rt - 1) (by omega)
  have e : X.getD (rt - 1) 0 = D.getD (rt - 1) 0 := by
    have e1 : (X.take rt)[rt - 1]? = (D.take rt)[rt - 1]? := by rw [ht]
    rw [List.getElem?_take_of_lt (by omega), List.getElem?_take_of_lt (by omega)] at e1
    simp only [List.getD, e1]
  rwa [e] at this
theorem L3.less (h : L3 m D g w d s rt nx wr) (rt' : Nat) (hr : rt' ≤ rt) : L3 m D g w d s rt' nx wr := by
  obtain ⟨X, hR, hX, ht, hd, hn, hrt⟩ := h
  refine ⟨X, hR, hX, ?_, hd, hn, by omega⟩
  have e := congrArg (List.take rt') ht
  rwa [List.take_take, List.take_take, Nat.min_eq_left hr] at e
theorem L3.write (h : L3 m D g w d s rt nx wr) (hr : rt < nx) : (∃ z : Int, wr.cell? ⟨g, nx - 1, none⟩ = some (.int .u32 z)) ∧ wr.frozen? ⟨g, nx - 1, none⟩ = false ∧
    L3 m D g w d (s + 1) rt (nx - 1) (wr.setCell ⟨g, nx - 1, none⟩ (.int .u32 (d : Int))) := by
  obtain ⟨X, hR, hX, ht, hd, hn, hrt⟩ := h
  refine ⟨⟨_, hR.cell (nx - 1) (by omega)⟩, hR.frozen _, X.set (nx - 1) d, hR.set (nx - 1) d d rfl, by simpa using hX, ?_, ?_, by omega, hrt⟩
  · rw [List.take_set_of_le (by omega)]
    exact ht
  · have hlt : nx - 1 < (X.set (nx - 1) d).length := by simp; omega
    rw [List.drop_eq_getElem_cons hlt, List.getElem_set_self, show nx - 1 + 1 = nx from by omega, List.drop_set_of_lt (by omega), hd, List.replicate_succ, List.cons_append]
theorem L3.level (h : L3 m D g w d s rt nx wr) (hs : s = avail D d - D.count d) : L3 m D g w (d + 1) 0 rt nx wr := by
  obtain ⟨X, hR, hX, ht, hd, hn, hrt⟩ := h
  subst hs
  refine ⟨X, hR, hX, ht, ?_, ?_, hrt⟩
  · rw [hd, lensTo_succ]; simp
  · rw [lensTo_succ]; simp; omega
end
theorem L3.end' {m : Nat} {P D : List Nat} {g : Nat} {w wr : World} {d rt nx : Nat} (hP : Par m P) (hD : Dep m P D) (h : L3 m D g w d 0 rt nx wr) (ha : avail D d = 0) (hd' : d ≤ m + 2) : Row .u32 25 g w (lens m D) wr := by
  obtain ⟨X, hR, hX, ht, hd, hn, hrt⟩ := h
  have he := (lens_end hP hD d ha).1
  have : nx = 0 := by omega
  subst this
  rw [lens_of_end hP hD d ha hd'] at hd
  simp only [List.drop_zero, List.replicate_zero, List.nil_append] at hd
  subst hd
  exact hR
end Go.Proofs.Qxb6605568a
