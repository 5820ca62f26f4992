/-
  THE PLAIN MATHEMATICS of the cost, continued: the lengths, weighed, come to the sum of all merged nodes.
  A ghost run of the first pass bears besides: Q: the leaves' parents; Ws: every internal node's weight.
-/
import Derived.Test.Qxb6605568aCost
namespace Go.Proofs.Qxb6605568a.Huff

structure Gh where
  P : List Nat
  Q : List Nat
  Ws : List Nat

def toSt (g : Gh) : St := ⟨g.P, g.Ws.drop g.P.length, g.Q.length⟩

def takesRoot (w : List Nat) (g : Gh) : Prop := g.P.length < g.Ws.length ∧ (w.length ≤ g.Q.length ∨ g.Ws.getD g.P.length 0 < w.getD g.Q.length 0)
def decRoot (w : List Nat) (g : Gh) : Bool := decide (g.P.length < g.Ws.length) && (decide (w.length ≤ g.Q.length) || decide (g.Ws.getD g.P.length 0 < w.getD g.Q.length 0))

def gpick (w : List Nat) (t : Nat) (g : Gh) : Nat × Gh :=
  if decRoot w g then (g.Ws.getD g.P.length 0, ⟨g.P ++ [t], g.Q, g.Ws⟩) else (w.getD g.Q.length 0, ⟨g.P, g.Q ++ [t], g.Ws⟩)

theorem gpick_cases (w : List Nat) (t : Nat) (g : Gh) :
    (g.P.length < g.Ws.length ∧ gpick w t g = (g.Ws.getD g.P.length 0, ⟨g.P ++ [t], g.Q, g.Ws⟩) ∧ pick w t (toSt g) = (g.Ws.getD g.P.length 0, toSt ⟨g.P ++ [t], g.Q, g.Ws⟩)) ∨
    (gpick w t g = (w.getD g.Q.length 0, ⟨g.P, g.Q ++ [t], g.Ws⟩) ∧ pick w t (toSt g) = (w.getD g.Q.length 0, toSt ⟨g.P, g.Q ++ [t], g.Ws⟩)) := by
  obtain ⟨P, Q, Ws⟩ := g
  by_cases h : decRoot w ⟨P, Q, Ws⟩ = true
  · left
    have h' := h
    simp only [decRoot, Bool.and_eq_true, Bool.or_eq_true, decide_eq_true_eq] at h'
    refine ⟨h'.1, by simp only [gpick, h, if_true], ?_⟩
    have e : Ws.drop P.length = Ws.getD P.length 0 :: Ws.drop (P.length + 1) := by
      rw [List.drop_eq_getElem_cons h'.1]
      simp [List.getD, h'.1]
    simp only [toSt]
    rw [e, pick_root h'.2]
    simp
  · right
    refine ⟨by simp only [gpick, h]; rfl, ?_⟩
    simp only [toSt]
    rw [pick_leaf]
    · simp
    · intro x r e hc
      apply h
      have hl : P.length < Ws.length := by
        have := congrArg List.length e
        simp at this
        omega
      rw [List.drop_eq_getElem_cons hl] at e
      simp only [List.cons.injEq] at e
      simp only [decRoot, Bool.and_eq_true, Bool.or_eq_true, decide_eq_true_eq]
      refine ⟨hl, ?_⟩
      have : Ws.getD P.length 0 = x := by simp [List.getD, hl, e.1]
      rw [this]
      exact hc

def gstep (w : List Nat) (t : Nat) (g : Gh) : Gh :=
  let a := gpick w t g
  let b := gpick w t a.2
  ⟨b.2.P, b.2.Q, b.2.Ws ++ [a.1 + b.1]⟩

def gsim (w : List Nat) : Nat → Gh
  | 0 => ⟨[], [0, 0], [w.getD 0 0 + w.getD 1 0]⟩
  | j + 1 => gstep w (j + 1) (gsim w j)

/-! ### Sums -/
/-- Of each element of Q the weight at its place times f of it. -/
def sumL (f : Nat → Nat) (Q w : List Nat) : Nat := ((List.range Q.length).map fun j => w.getD j 0 * f (Q.getD j 0)).sum
def sumR (f : Nat → Nat) (Ws : List Nat) : Nat := ((List.range Ws.length).map fun u => Ws.getD u 0 * f u).sum

theorem getD_app_lt (A B : List Nat) (i : Nat) (h : i < A.length) : (A ++ B).getD i 0 = A.getD i 0 := by
  simp [List.getD, List.getElem?_append_left h]
theorem getD_app_eq (A : List Nat) (v : Nat) : (A ++ [v]).getD A.length 0 = v := by simp [List.getD]

theorem sumL_app (f : Nat → Nat) (Q w : List Nat) (t : Nat) : sumL f (Q ++ [t]) w = sumL f Q w + w.getD Q.length 0 * f t := by
  simp only [sumL, List.length_append, List.length_cons, List.length_nil, List.range_succ, List.map_append, List.sum_append, List.map_cons, List.map_nil, List.sum_cons, List.sum_nil, Nat.zero_add, Nat.add_zero, getD_app_eq]
  congr 2
  apply List.map_congr_left
  intro j hj
  rw [getD_app_lt Q [t] j (by simpa using hj)]
theorem sumL_grow (f : Nat → Nat) (P Ws : List Nat) (v : Nat) (h : P.length ≤ Ws.length) : sumL f P (Ws ++ [v]) = sumL f P Ws := by
  simp only [sumL]
  congr 1
  apply List.map_congr_left
  intro j hj
  have : j < P.length := by simpa using hj
  rw [getD_app_lt Ws [v] j (by omega)]
theorem sumR_app (f : Nat → Nat) (Ws : List Nat) (v : Nat) : sumR f (Ws ++ [v]) = sumR f Ws + v * f Ws.length := by
  simp only [sumR, List.length_append, List.length_cons, List.length_nil, List.range_succ, List.map_append, List.sum_append, List.map_cons, List.map_nil, List.sum_cons, List.sum_nil, Nat.zero_add, Nat.add_zero, getD_app_eq]
  congr 2
  apply List.map_congr_left
  intro j hj
  rw [getD_app_lt Ws [v] j (by simpa using hj)]

/-- In the midst of node t: c choices made, which came to v. -/
structure GMid (w : List Nat) (t c v : Nat) (g : Gh) : Prop where
  lenW : g.Ws.length = t
  le : g.P.length ≤ g.Ws.length
  old : ∀ u, u < t → g.P.count u + g.Q.count u = 2
  new : g.P.count t + g.Q.count t = c
  up : g.Q.Pairwise (· ≤ ·)
  small : ∀ q ∈ g.Q, q ≤ t
  smallP : ∀ q ∈ g.P, q ≤ t
  pay : ∀ f : Nat → Nat, sumL f g.Q w + sumL f g.P g.Ws = sumR f g.Ws + v * f t

theorem GMid.pick {w : List Nat} {t c v : Nat} {g : Gh} (h : GMid w t c v g) : GMid w t (c + 1) (v + (gpick w t g).1) (gpick w t g).2 := by
  obtain ⟨P, Q, Ws⟩ := g
  obtain ⟨lenW, le, old, new, up, small, smallP, pay⟩ := h
  simp only at lenW le old new up small smallP pay
  rcases gpick_cases w t ⟨P, Q, Ws⟩ with ⟨h1, h2, _⟩ | ⟨h2, _⟩
  · rw [h2]
    simp only at h1 ⊢
    refine ⟨lenW, by simp; omega, ?_, ?_, up, small, ?_, ?_⟩
    · intro u hu
      have := old u hu
      simp [show t ≠ u by omega]
      omega
    · simp
      omega
    · intro q hq
      rcases List.mem_append.1 hq with h | h
      · exact smallP q h
      · simp at h; omega
    · intro f
      have := pay f
      simp only
      rw [sumL_app, Nat.add_mul]
      omega
  · rw [h2]
    simp only
    refine ⟨lenW, le, ?_, ?_, ?_, ?_, smallP, ?_⟩
    · intro u hu
      have := old u hu
      simp [show t ≠ u by omega]
      omega
    · simp
      omega
    · rw [List.pairwise_append]
      refine ⟨up, by simp, ?_⟩
      intro a ha b hb
      simp at hb
      have := small a ha
      omega
    · intro q hq
      rcases List.mem_append.1 hq with h | h
      · exact small q h
      · simp at h; omega
    · intro f
      have := pay f
      simp only
      rw [sumL_app, Nat.add_mul]
      omega

/-- At a round's head, t nodes being there. -/
theorem gstep_mid {w : List Nat} {t : Nat} {g : Gh} (h : GMid w t 0 0 g) : GMid w (t + 1) 0 0 (gstep w t g) ∧ toSt (gstep w t g) = step w t (toSt g) ∧
    (gstep w t g).Ws.sum = g.Ws.sum + ((Huff.pick w t (toSt g)).1 + (Huff.pick w t (Huff.pick w t (toSt g)).2).1) := by
  have hP : ∀ g : Gh, Huff.pick w t (toSt g) = ((gpick w t g).1, toSt (gpick w t g).2) := by
    intro g
    rcases gpick_cases w t g with ⟨_, h2, h3⟩ | ⟨h2, h3⟩ <;> rw [h2, h3]
  have hW : ∀ g : Gh, (gpick w t g).2.Ws = g.Ws := by
    intro g
    rcases gpick_cases w t g with ⟨_, h2, h3⟩ | ⟨h2, h3⟩ <;> rw [h2]
  have m := h.pick.pick
  have e1 := hP g
  have e2 := hP (gpick w t g).2
  have w1 := hW g
  have w2 := hW (gpick w t g).2
  generalize hx : (gpick w t g).1 = x at *
  generalize hg1 : (gpick w t g).2 = g1 at *
  generalize hy : (gpick w t g1).1 = y at *
  generalize hg2 : (gpick w t g1).2 = g2 at *
  have hst : gstep w t g = ⟨g2.P, g2.Q, g2.Ws ++ [x + y]⟩ := by simp only [gstep, hx, hg1, hy, hg2]
  obtain ⟨lenW, le, old, new, up, small, smallP, pay⟩ := m
  rw [hst]
  refine ⟨⟨by simp; omega, by simp; omega, ?_, ?_, up, ?_, ?_, ?_⟩, ?_, ?_⟩
  · intro u hu
    by_cases h' : u = t
    · subst h'; simpa using new
    · exact old u (by omega)
  · have h1 : g2.P.count (t + 1) = 0 := List.count_eq_zero.2 fun hm => by have := smallP _ hm; omega
    have h2 : g2.Q.count (t + 1) = 0 := List.count_eq_zero.2 fun hm => by have := small _ hm; omega
    simp only
    omega
  · intro q hq; have := small q hq; omega
  · intro q hq; have := smallP q hq; omega
  · intro f
    have := pay f
    simp only [Nat.zero_add] at this ⊢
    rw [sumL_grow f _ _ _ le, sumR_app, lenW]
    omega
  · simp only [step, e1, e2]
    simp only [toSt]
    rw [List.drop_append_of_le_length le]
  · simp only [e1, e2, List.sum_append, List.sum_cons, List.sum_nil]
    rw [w2, w1]
    omega

theorem gsim_facts (w : List Nat) : ∀ j, GMid w (j + 1) 0 0 (gsim w j) ∧ toSt (gsim w j) = sim w j ∧ (gsim w j).Ws.sum = merged w j
  | 0 => by
    refine ⟨⟨rfl, by simp [gsim], ?_, by simp [gsim], by simp [gsim], by simp [gsim], by simp [gsim], ?_⟩, by simp [gsim, toSt, sim], by simp [gsim, merged]⟩
    · intro u hu
      have : u = 0 := by omega
      subst this
      simp [gsim]
    · intro f
      simp [gsim, sumL, sumR, List.range_succ, Nat.add_mul]
  | j + 1 => by
    obtain ⟨h1, h2, h3⟩ := gsim_facts w j
    obtain ⟨s1, s2, s3⟩ := gstep_mid h1
    refine ⟨s1, ?_, ?_⟩
    · simp only [gsim, sim]; rw [s2, h2]
    · simp only [gsim, merged]; rw [s3, h2, h3]

/-! ### The lengths are the leaves' depths -/
theorem countP_both (q : Nat → Bool) : ∀ (L : Nat) (R : List Nat), (∀ p ∈ R, p < L) → (∀ u, u < L → R.count u = 2) → R.countP q = 2 * (List.range L).countP q
  | 0, R, h, _ => by
    have : R = [] := List.eq_nil_iff_forall_not_mem.2 fun p hp => by have := h p hp; omega
    subst this
    simp
  | L + 1, R, h, h2 => by
    have ih := countP_both q L (R.filter (· ≠ L)) (fun p hp => by
      have := List.mem_filter.1 hp
      have h3 := h p this.1
      have h4 : p ≠ L := by simpa using this.2
      omega) (fun u hu => by
        rw [List.count_filter (by simp; omega)]
        exact h2 u (by omega))
    have e : R.countP q = (R.filter (· ≠ L)).countP q + if q L then R.count L else 0 := by
      clear ih h h2
      induction R with
      | nil => simp
      | cons x r ihr =>
        by_cases hx : x = L
        · subst hx
          by_cases hq : q x
          · simp [hq, ihr]; omega
          · simp [hq, ihr]
        · by_cases hq : q L
          · simp [List.countP_cons, hx, hq, ihr]; omega
          · simp [List.countP_cons, hx, hq, ihr]
    rw [e, ih, List.range_succ, List.countP_append, h2 L (by omega)]
    by_cases hq : q L
    · simp [hq]; omega
    · simp [hq]

theorem lens_leaves {m : Nat} {P Q D : List Nat} (hP : Par m P) (hD : Dep m P D) (hup : Q.Pairwise (· ≤ ·)) (hs : ∀ q ∈ Q, q ≤ m) (h2 : ∀ u, u < m + 1 → P.count u + Q.count u = 2) :
    lens m D = Q.map (fun q => D.getD q 0 + 1) := by
  have hdown : (Q.map (fun q => D.getD q 0 + 1)).Pairwise (fun a b => b ≤ a) := by
    rw [List.pairwise_map]
    refine hup.imp_of_mem ?_
    intro a b ha hb hab
    have := dep_mono hP hD m a b (by omega) hab (hs b hb)
    omega
  have hcount : ∀ x, (lens m D).count x = (Q.map (fun q => D.getD q 0 + 1)).count x := by
    intro x
    cases x with
    | zero =>
      unfold lens
      rw [lensTo_count, if_pos (by omega)]
      have h0 := dep_zero hP hD
      have h1 : (Q.map (fun q => D.getD q 0 + 1)).count 0 = 0 := by
        rw [List.count_eq_zero]
        intro hm
        obtain ⟨q, _, e⟩ := List.mem_map.1 hm
        omega
      rw [h1]
      simp only [avail]
      omega
    | succ d =>
      have e1 : (Q.map (fun q => D.getD q 0 + 1)).count (d + 1) = Q.countP (fun p => D.getD p 0 == d) := by
        rw [List.count_eq_countP, List.countP_map]
        apply List.countP_congr
        intro p _
        simp
      have e2 : D.count (d + 1) = P.countP (fun p => D.getD p 0 == d) := by
        conv => lhs; rw [dep_map hP hD]
        rw [List.count_append, List.count_eq_countP, List.countP_map]
        have : List.count (d + 1) [0] = 0 := by simp
        rw [this, Nat.add_zero]
        apply List.countP_congr
        intro p _
        simp
      have e3 := countP_both (fun p => D.getD p 0 == d) (m + 1) (P ++ Q) (by
        intro p hp
        rcases List.mem_append.1 hp with h | h
        · obtain ⟨i, hi, rfl⟩ := List.getElem_of_mem h
          have := (hP.lt i hi).2
          omega
        · have := hs p h
          omega) (fun u hu => by rw [List.count_append]; exact h2 u hu)
      rw [List.countP_append, ← e1, ← e2] at e3
      have e4 := count_range D d
      rw [hD.len] at e4
      rw [← e4] at e3
      unfold lens
      rw [lensTo_count]
      by_cases hx : d + 1 < m + 2
      · rw [if_pos hx, avail_succ]; omega
      · rw [if_neg hx]
        have h5 : D.count d = 0 := by
          rw [List.count_eq_zero]
          intro hm
          obtain ⟨i, hi, e⟩ := List.getElem_of_mem hm
          have hl := hD.len
          have := dep_le hP hD m i (by omega) (by omega)
          simp only [List.getD, List.getElem?_eq_getElem hi, Option.getD_some] at this
          omega
        omega
  exact List.Perm.eq_of_pairwise (fun _ _ _ _ h1 h2 => Nat.le_antisymm h2 h1) (lensTo_pairwise D _) hdown (List.perm_iff_count.2 hcount)

/-- The weights, each times its length. -/
def wcost (w C : List Nat) : Nat := ((List.range w.length).map fun j => w.getD j 0 * C.getD j 0).sum

theorem sum_add (f g : Nat → Nat) : ∀ l : List Nat, (l.map fun u => f u + g u).sum = (l.map f).sum + (l.map g).sum
  | [] => rfl
  | x :: r => by simp only [List.map_cons, List.sum_cons, sum_add f g r]; omega

theorem sum_getD : ∀ l : List Nat, ((List.range l.length).map fun u => l.getD u 0).sum = l.sum := by
  intro l
  have : (List.range l.length).map (fun u => l.getD u 0) = l := by
    apply List.ext_getElem
    · simp
    · intro i h1 h2
      simp [List.getD, h2]
  rw [this]

/-- The lengths, weighed, come to the sum of all merged nodes. -/
theorem wcost_hl (w : List Nat) (hl2 : 2 ≤ w.length) : wcost w (hl w) = merged w (w.length - 2) := by
  obtain ⟨g1, g2, g3⟩ := gsim_facts w (w.length - 2)
  have hP := par_parents w hl2
  have hD := dep_depths hP
  have he := sim_end w hl2
  rw [← g2] at he
  have hPe : (gsim w (w.length - 2)).P = parents w := by
    show _ = (sim w (w.length - 2)).P
    rw [← g2]
    rfl
  obtain ⟨lenW, _, old, new, up, small, _, pay⟩ := g1
  simp only [toSt] at he
  rw [hPe] at old pay new
  rw [← g3]
  generalize hm : w.length - 2 = m at *
  generalize (gsim w m).Q = Q at *
  generalize (gsim w m).Ws = Ws at *
  have hle : hl w = Q.map (fun q => (depths 0 (parents w)).getD q 0 + 1) := by
    have := lens_leaves (Q := Q) hP hD up (fun q hq => by
      have h := small q hq
      rcases Nat.lt_or_ge m q with h' | h'
      · exfalso
        have hq' : q = m + 1 := by omega
        subst hq'
        have := List.count_pos_iff.2 hq
        omega
      · exact h') (fun u hu => old u hu)
    unfold hl
    rw [hm]
    exact this
  rw [hle]
  generalize depths 0 (parents w) = D at *
  generalize parents w = P at *
  have hpl := hP.len
  have hQl : Q.length = w.length := he.2.2
  have p1 := pay (fun u => D.getD u 0 + 1)
  have e1 : wcost w (Q.map (fun q => D.getD q 0 + 1)) = sumL (fun u => D.getD u 0 + 1) Q w := by
    simp only [wcost, sumL]
    rw [hQl]
    congr 1
    apply List.map_congr_left
    intro j hj
    have hj' : j < Q.length := by rw [hQl]; simpa using hj
    congr 1
    simp [List.getD, hj']
  have e2 : sumL (fun u => D.getD u 0 + 1) P Ws = ((List.range m).map fun i => Ws.getD i 0 * D.getD i 0).sum := by
    simp only [sumL]
    rw [hpl]
    congr 1
    apply List.map_congr_left
    intro j hj
    rw [hD.up j (by simpa using hj)]
  have e3 : sumR (fun u => D.getD u 0 + 1) Ws = ((List.range m).map fun i => Ws.getD i 0 * D.getD i 0).sum + Ws.sum := by
    simp only [sumR]
    have : (fun u => Ws.getD u 0 * (D.getD u 0 + 1)) = fun u => Ws.getD u 0 * D.getD u 0 + Ws.getD u 0 := by
      funext u
      rw [Nat.mul_add, Nat.mul_one]
    rw [this, sum_add, sum_getD, lenW, List.range_succ, List.map_append, List.sum_append]
    simp only [List.map_cons, List.map_nil, List.sum_cons, List.sum_nil, hD.root]
    omega
  rw [e1]
  omega

/-- **What the lengths cost is what merging the two least, again and again, costs.** -/
theorem cost_hl (w : List Nat) (hl2 : 2 ≤ w.length) (hw : w.Pairwise (· ≤ ·)) : wcost w (hl w) = mc (w.length - 1) w := by
  rw [wcost_hl w hl2, merged_mc w hl2 hw]
end Go.Proofs.Qxb6605568a.Huff
