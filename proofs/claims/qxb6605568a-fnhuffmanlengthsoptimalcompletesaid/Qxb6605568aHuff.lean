/-
  THE PLAIN MATHEMATICS of the in-place Huffman lengths: no Go in sight.
  The state of the first pass: P: the parents of the internal nodes that have been paired; I: the weights of those that have not; leaf: how many leaves have been paired. The array at that moment is P ++ I ++ w.drop (P.length + I.length).
-/
namespace Go.Proofs.Qxb6605568a.Huff

structure St where
  P : List Nat
  I : List Nat
  leaf : Nat

/-- One choice, for the new node t: the lighter of the first unpaired internal node and the first unpaired leaf (a tie: the leaf). -/
def pick (w : List Nat) (t : Nat) (s : St) : Nat × St :=
  match s.I with
  | [] => (w.getD s.leaf 0, ⟨s.P, [], s.leaf + 1⟩)
  | x :: r => if w.length ≤ s.leaf ∨ x < w.getD s.leaf 0 then (x, ⟨s.P ++ [t], r, s.leaf⟩) else (w.getD s.leaf 0, ⟨s.P, x :: r, s.leaf + 1⟩)

def step (w : List Nat) (t : Nat) (s : St) : St :=
  let a := pick w t s
  let b := pick w t a.2
  ⟨b.2.P, b.2.I ++ [a.1 + b.1], b.2.leaf⟩

/-- Behind j steps of the loop: j + 1 internal nodes. -/
def sim (w : List Nat) : Nat → St
  | 0 => ⟨[], [w.getD 0 0 + w.getD 1 0], 2⟩
  | j + 1 => step w (j + 1) (sim w j)

theorem pick_root {w : List Nat} {t : Nat} {P r : List Nat} {x leaf : Nat} (h : w.length ≤ leaf ∨ x < w.getD leaf 0) : pick w t ⟨P, x :: r, leaf⟩ = (x, ⟨P ++ [t], r, leaf⟩) := by
  simp only [pick]
  rw [if_pos h]
theorem pick_leaf {w : List Nat} {t : Nat} {P I : List Nat} {leaf : Nat} (h : ∀ x r, I = x :: r → ¬ (w.length ≤ leaf ∨ x < w.getD leaf 0)) : pick w t ⟨P, I, leaf⟩ = (w.getD leaf 0, ⟨P, I, leaf + 1⟩) := by
  cases I with
  | nil => rfl
  | cons x r => simp only [pick]; rw [if_neg (h x r rfl)]

theorem sum_drop (w : List Nat) (i : Nat) (h : i < w.length) : (w.drop i).sum = w.getD i 0 + (w.drop (i + 1)).sum := by
  rw [List.drop_eq_getElem_cons h, List.sum_cons]
  simp [List.getD, h]

/-- What holds in the midst of a step: c choices have been made for node t; they came to v. -/
structure Mid (w : List Nat) (t c v : Nat) (s : St) : Prop where
  len : s.P.length + s.I.length = t
  cnt : s.leaf + s.P.length = 2 * t + c
  le : s.leaf ≤ w.length
  sum : v + (s.I.sum + (w.drop s.leaf).sum) = w.sum
  lt : ∀ i (h : i < s.P.length), i < s.P[i] ∧ s.P[i] ≤ t
  mono : s.P.Pairwise (· ≤ ·)
  two : ∀ u, u ≠ t → s.P.count u ≤ 2
  new : s.P.count t ≤ c

theorem Mid.pick {w : List Nat} {t c v : Nat} {s : St} (h : Mid w t c v s) (hav : t + c < w.length) : Mid w t (c + 1) (v + (pick w t s).1) (pick w t s).2 := by
  obtain ⟨P, I, leaf⟩ := s
  have root : ∀ x r, I = x :: r → Mid w t (c + 1) (v + x) ⟨P ++ [t], r, leaf⟩ := by
    intro x r e
    subst e
    obtain ⟨len, cnt, le, sum, lt, mono, two, new⟩ := h
    simp only [List.length_cons, List.sum_cons] at len cnt le sum lt mono two new
    refine ⟨by simp; omega, by simp; omega, le, by simp only; omega, ?_, ?_, ?_, ?_⟩
    · intro i hi
      simp only [List.length_append, List.length_cons, List.length_nil] at hi
      by_cases hi' : i < P.length
      · rw [List.getElem_append_left hi']
        exact lt i hi'
      · have : i = P.length := by omega
        subst this
        simp
        omega
    · rw [List.pairwise_append]
      refine ⟨mono, by simp, ?_⟩
      intro a ha b hb
      simp at hb
      subst hb
      obtain ⟨i, hi, rfl⟩ := List.getElem_of_mem ha
      exact (lt i hi).2
    · intro u hu
      have := two u hu
      simp only [List.count_append, List.count_cons, List.count_nil]
      simp [Ne.symm hu]
      exact this
    · simp only [List.count_append, List.count_cons, List.count_nil]
      simp
      omega
  have leaf' : leaf < w.length → Mid w t (c + 1) (v + w.getD leaf 0) ⟨P, I, leaf + 1⟩ := by
    intro hl
    obtain ⟨len, cnt, le, sum, lt, mono, two, new⟩ := h
    simp only at len cnt le sum lt mono two new
    have := sum_drop w leaf hl
    exact ⟨len, by simp only; omega, by simp only; omega, by simp only; omega, lt, mono, two, by simp only; omega⟩
  by_cases hc : ∃ x r, I = x :: r ∧ (w.length ≤ leaf ∨ x < w.getD leaf 0)
  · obtain ⟨x, r, e, hc⟩ := hc
    subst e
    rw [pick_root hc]
    exact root x r rfl
  · have hc' : ∀ x r, I = x :: r → ¬ (w.length ≤ leaf ∨ x < w.getD leaf 0) := fun x r e h' => hc ⟨x, r, e, h'⟩
    rw [pick_leaf hc']
    refine leaf' ?_
    cases I with
    | cons x r => have := hc' x r rfl; omega
    | nil => have h1 := h.len; have h2 := h.cnt; simp at h1 h2; omega

/-- At a round's head, t internal nodes being there. -/
structure Inv (w : List Nat) (t : Nat) (s : St) : Prop where
  len : s.P.length + s.I.length = t
  pos : 1 ≤ s.I.length
  cnt : s.leaf + s.P.length = 2 * t
  le : s.leaf ≤ w.length
  sum : s.I.sum + (w.drop s.leaf).sum = w.sum
  lt : ∀ i (h : i < s.P.length), i < s.P[i] ∧ s.P[i] < t
  mono : s.P.Pairwise (· ≤ ·)
  two : ∀ u, s.P.count u ≤ 2

theorem Inv.mid {w : List Nat} {t : Nat} {s : St} (h : Inv w t s) : Mid w t 0 0 s :=
  ⟨h.len, h.cnt, h.le, by have := h.sum; omega, fun i hi => ⟨(h.lt i hi).1, Nat.le_of_lt (h.lt i hi).2⟩, h.mono, fun u _ => h.two u, by
    rw [List.count_eq_zero.2]
    · exact Nat.le_refl _
    · intro hm
      obtain ⟨i, hi, e⟩ := List.getElem_of_mem hm
      have := (h.lt i hi).2
      omega⟩

theorem Inv.step {w : List Nat} {t : Nat} {s : St} (h : Inv w t s) (ht : t + 1 < w.length) : Inv w (t + 1) (step w t s) := by
  have m := (h.mid.pick (by omega)).pick (by omega)
  obtain ⟨len, cnt, le, sum, lt, mono, two, new⟩ := m
  refine ⟨?_, ?_, ?_, le, ?_, ?_, mono, ?_⟩
  · simp only [Huff.step, List.length_append, List.length_cons, List.length_nil]; omega
  · simp [Huff.step]
  · simp only [Huff.step]; omega
  · simp only [Huff.step, List.sum_append, List.sum_cons, List.sum_nil]; omega
  · intro i hi
    have := lt i hi
    exact ⟨this.1, by have := this.2; simp only [Huff.step]; omega⟩
  · intro u
    by_cases hu : u = t
    · subst hu; exact Nat.le_trans new (by omega)
    · exact two u hu

theorem inv_sim (w : List Nat) (hw : 2 ≤ w.length) : ∀ j, j + 1 < w.length → Inv w (j + 1) (sim w j)
  | 0, _ => by
    have h0 := sum_drop w 0 (by omega)
    have h1 := sum_drop w 1 (by omega)
    simp only [List.drop_zero, Nat.zero_add] at h0
    simp only [Nat.reduceAdd] at h1
    exact ⟨rfl, by simp [sim], rfl, hw, by simp only [sim, List.sum_cons, List.sum_nil]; omega, fun i hi => by simp [sim] at hi, by simp [sim], by simp [sim]⟩
  | j + 1, h => (inv_sim w hw j (by omega)).step (by omega)

/-- The parents, all of them. -/
def parents (w : List Nat) : List Nat := (sim w (w.length - 2)).P

/-- What the parents' list of m + 1 internal nodes must be for all that follows. -/
structure Par (m : Nat) (P : List Nat) : Prop where
  len : P.length = m
  lt : ∀ i (h : i < P.length), i < P[i] ∧ P[i] ≤ m
  mono : P.Pairwise (· ≤ ·)
  two : ∀ u, P.count u ≤ 2

theorem sim_end (w : List Nat) (hw : 2 ≤ w.length) : (sim w (w.length - 2)).P.length = w.length - 2 ∧ (sim w (w.length - 2)).I.length = 1 ∧ (sim w (w.length - 2)).leaf = w.length := by
  have h := inv_sim w hw (w.length - 2) (by omega)
  have h1 := h.len
  have h2 := h.pos
  have h3 := h.cnt
  have h4 := h.le
  omega

theorem par_parents (w : List Nat) (hw : 2 ≤ w.length) : Par (w.length - 2) (parents w) := by
  have h := inv_sim w hw (w.length - 2) (by omega)
  refine ⟨(sim_end w hw).1, fun i hi => ⟨(h.lt i hi).1, ?_⟩, h.mono, h.two⟩
  have := (h.lt i hi).2
  show (sim w (w.length - 2)).P[i] ≤ _
  omega

/-! ### Scaling the weights -/
theorem getD_scale (k : Nat) (w : List Nat) (i : Nat) : (w.map (k * ·)).getD i 0 = k * w.getD i 0 := by
  simp only [List.getD, List.getElem?_map]
  cases w[i]? <;> simp

theorem pick_scale (k : Nat) (hk : 1 ≤ k) (w : List Nat) (t : Nat) (s : St) :
    pick (w.map (k * ·)) t ⟨s.P, s.I.map (k * ·), s.leaf⟩ = (k * (pick w t s).1, ⟨(pick w t s).2.P, (pick w t s).2.I.map (k * ·), (pick w t s).2.leaf⟩) := by
  obtain ⟨P, I, leaf⟩ := s
  cases I with
  | nil => simp only [pick, List.map_nil, getD_scale]
  | cons x r =>
    have e : (w.length ≤ leaf ∨ k * x < k * w.getD leaf 0) ↔ (w.length ≤ leaf ∨ x < w.getD leaf 0) := by
      rw [Nat.mul_lt_mul_left (by omega)]
    simp only [pick, List.map_cons, getD_scale, List.length_map]
    by_cases h : w.length ≤ leaf ∨ x < w.getD leaf 0
    · rw [if_pos h, if_pos (e.2 h)]
    · rw [if_neg h, if_neg (fun h' => h (e.1 h'))]
      simp

theorem sim_scale (k : Nat) (hk : 1 ≤ k) (w : List Nat) : ∀ j, sim (w.map (k * ·)) j = ⟨(sim w j).P, (sim w j).I.map (k * ·), (sim w j).leaf⟩
  | 0 => by simp only [sim, getD_scale, List.map_cons, List.map_nil, Nat.mul_add]
  | j + 1 => by
    simp only [sim, sim_scale k hk w j, step, pick_scale k hk, List.map_append, List.map_cons, List.map_nil, Nat.mul_add]

theorem parents_scale (k : Nat) (hk : 1 ≤ k) (w : List Nat) : parents (w.map (k * ·)) = parents w := by
  simp only [parents, sim_scale k hk, List.length_map]
end Go.Proofs.Qxb6605568a.Huff
