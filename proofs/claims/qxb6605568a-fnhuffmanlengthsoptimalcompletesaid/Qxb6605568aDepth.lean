/-
  THE PLAIN MATHEMATICS of the second and third pass: the internal nodes' depths out of their parents; the leaves' depths out of how many internal nodes stand at each depth.
-/
import Derived.Test.Qxb6605568aHuff
namespace Go.Proofs.Qxb6605568a.Huff

/-- The depths of the internal nodes i, i + 1, .., the root, out of the parents of i, i + 1, ... -/
def depths : Nat → List Nat → List Nat
  | _, [] => [0]
  | i, p :: ps => ((depths (i + 1) ps).getD (p - (i + 1)) 0 + 1) :: depths (i + 1) ps

theorem depths_length : ∀ (i : Nat) (ps : List Nat), (depths i ps).length = ps.length + 1
  | _, [] => rfl
  | i, p :: ps => by simp [depths, depths_length (i + 1) ps]

theorem depths_drop : ∀ (j i : Nat) (ps : List Nat), j ≤ ps.length → (depths i ps).drop j = depths (i + j) (ps.drop j)
  | 0, i, ps, _ => by simp
  | j + 1, i, [], h => by simp at h
  | j + 1, i, p :: ps, h => by
    simp only [depths, List.drop_succ_cons]
    rw [depths_drop j (i + 1) ps (by simpa using h)]
    congr 1
    omega

/-- The depths' own law. -/
structure Dep (m : Nat) (P D : List Nat) : Prop where
  len : D.length = m + 1
  root : D.getD m 0 = 0
  up : ∀ i, i < m → D.getD i 0 = D.getD (P.getD i 0) 0 + 1

theorem dep_depths {m : Nat} {P : List Nat} (h : Par m P) : Dep m P (depths 0 P) := by
  have hl : (depths 0 P).length = m + 1 := by rw [depths_length, h.len]
  refine ⟨hl, ?_, ?_⟩
  · have := depths_drop m 0 P (by rw [h.len]; exact Nat.le_refl _)
    rw [List.drop_of_length_le (l := P) (by rw [h.len]; exact Nat.le_refl _)] at this
    have e := congrArg (fun l => l.getD 0 0) this
    simpa [depths, List.getD] using e
  · intro i hi
    have hi' : i < P.length := by rw [h.len]; exact hi
    have h1 := depths_drop i 0 P (by omega)
    have h2 := depths_drop (i + 1) 0 P (by omega)
    rw [List.drop_eq_getElem_cons hi'] at h1
    simp only [depths, Nat.zero_add] at h1 h2
    rw [← h2] at h1
    have e := congrArg (fun l => l.getD 0 0) h1
    have hp := h.lt i hi'
    simp only [List.getD, List.getElem?_drop, List.getElem?_cons_zero, Option.getD_some, Nat.add_zero] at e
    rw [show i + 1 + (P[i] - (i + 1)) = P[i] from by omega] at e
    simp only [List.getD, List.getElem?_eq_getElem hi', Option.getD_some]
    exact e

theorem par_get {m : Nat} {P : List Nat} (hP : Par m P) (i : Nat) (hi : i < m) : i < P.getD i 0 ∧ P.getD i 0 ≤ m := by
  have hi' : i < P.length := by rw [hP.len]; exact hi
  have := hP.lt i hi'
  simpa [List.getD, hi'] using this

theorem par_mono {m : Nat} {P : List Nat} (hP : Par m P) (i j : Nat) (hij : i ≤ j) (hj : j < m) : P.getD i 0 ≤ P.getD j 0 := by
  have hj' : j < P.length := by rw [hP.len]; exact hj
  have hi' : i < P.length := by omega
  simp only [List.getD, List.getElem?_eq_getElem hj', List.getElem?_eq_getElem hi', Option.getD_some]
  rcases Nat.lt_or_eq_of_le hij with h | h
  · exact List.pairwise_iff_getElem.1 hP.mono i j hi' hj' h
  · subst h; exact Nat.le_refl _

/-- The depths never grow along the list. -/
theorem dep_mono {m : Nat} {P D : List Nat} (hP : Par m P) (hD : Dep m P D) : ∀ k i j, m - k ≤ i → i ≤ j → j ≤ m → D.getD j 0 ≤ D.getD i 0
  | 0, i, j, h1, h2, h3 => by
    have : i = j := by omega
    subst this
    exact Nat.le_refl _
  | k + 1, i, j, h1, h2, h3 => by
    by_cases hm : j = m
    · subst hm; rw [hD.root]; exact Nat.zero_le _
    · rw [hD.up i (by omega), hD.up j (by omega)]
      have hp := par_get hP i (by omega)
      have hq := par_get hP j (by omega)
      have := dep_mono hP hD k (P.getD i 0) (P.getD j 0) (by omega) (par_mono hP i j h2 (by omega)) hq.2
      omega

theorem dep_le {m : Nat} {P D : List Nat} (hP : Par m P) (hD : Dep m P D) : ∀ k i, m - k ≤ i → i ≤ m → D.getD i 0 ≤ m - i
  | 0, i, h1, h2 => by
    have : i = m := by omega
    subst this
    rw [hD.root]; exact Nat.zero_le _
  | k + 1, i, h1, h2 => by
    by_cases hm : i = m
    · subst hm; rw [hD.root]; exact Nat.zero_le _
    · rw [hD.up i (by omega)]
      have hp := par_get hP i (by omega)
      have := dep_le hP hD k (P.getD i 0) (by omega) hp.2
      omega

theorem dep_pairwise {m : Nat} {P D : List Nat} (hP : Par m P) (hD : Dep m P D) : D.Pairwise (fun a b => b ≤ a) := by
  rw [List.pairwise_iff_getElem]
  intro i j hi hj hij
  have hl := hD.len
  have := dep_mono hP hD m i j (by omega) (by omega) (by omega)
  simpa [List.getD, hi, hj] using this

theorem dep_map {m : Nat} {P D : List Nat} (hP : Par m P) (hD : Dep m P D) : D = P.map (fun p => D.getD p 0 + 1) ++ [0] := by
  have hl := hD.len
  have hp := hP.len
  apply List.ext_getElem
  · simp; omega
  · intro i h1 h2
    by_cases hi : i < m
    · rw [List.getElem_append_left (by simp; omega)]
      have := hD.up i hi
      simp only [List.getD, List.getElem?_eq_getElem h1, List.getElem?_eq_getElem (show i < P.length by omega), Option.getD_some] at this
      simpa [List.getD] using this
    · have : i = m := by omega
      subst this
      have := hD.root
      simp only [List.getD, List.getElem?_eq_getElem h1, Option.getD_some] at this
      rw [this]
      simp [hp]

/-- No value stands more than twice: so many of a list's elements as meet a test are at most twice the numbers that meet it. -/
theorem countP_two (q : Nat → Bool) : ∀ (L : Nat) (P : List Nat), (∀ p ∈ P, p < L) → (∀ u, P.count u ≤ 2) → P.countP q ≤ 2 * (List.range L).countP q
  | 0, P, h, _ => by
    have : P = [] := List.eq_nil_iff_forall_not_mem.2 fun p hp => by have := h p hp; omega
    subst this
    simp
  | L + 1, P, h, h2 => by
    have ih := countP_two q L (P.filter (· ≠ L)) (fun p hp => by
      have := List.mem_filter.1 hp
      have h3 := h p this.1
      have h4 : p ≠ L := by simpa using this.2
      omega) (fun u => Nat.le_trans (List.Sublist.count_le u List.filter_sublist) (h2 u))
    have e : P.countP q = (P.filter (· ≠ L)).countP q + if q L then P.count L else 0 := by
      clear ih h h2
      induction P with
      | nil => simp
      | cons x r ihr =>
        by_cases hx : x = L
        · subst hx
          by_cases hq : q x
          · simp [hq, ihr]; omega
          · simp [hq, ihr]
        · by_cases hq : q L
          · simp [List.countP_cons, hx, hq, ihr]; omega
          · simp [List.countP_cons, hx, hq, ihr]
    rw [e, List.range_succ, List.countP_append]
    have := h2 L
    by_cases hq : q L
    · simp [hq]; simp at ih; omega
    · simp [hq]; simp at ih; omega

theorem count_range (D : List Nat) (d : Nat) : D.count d = (List.range D.length).countP (fun i => D.getD i 0 == d) := by
  have : D = (List.range D.length).map (fun i => D.getD i 0) := by
    apply List.ext_getElem
    · simp
    · intro i h1 h2
      simp [List.getD, h1]
  conv => lhs; rw [this]
  rw [List.count_eq_countP, List.countP_map]
  rfl

/-- At most twice as many internal nodes one level down. -/
theorem dep_two {m : Nat} {P D : List Nat} (hP : Par m P) (hD : Dep m P D) (d : Nat) : D.count (d + 1) ≤ 2 * D.count d := by
  have e1 : D.count (d + 1) = P.countP (fun p => D.getD p 0 == d) := by
    conv => lhs; rw [dep_map hP hD]
    rw [List.count_append, List.count_eq_countP, List.countP_map]
    have : List.count (d + 1) [0] = 0 := by simp
    rw [this, Nat.add_zero]
    apply List.countP_congr
    intro p _
    simp
  rw [e1, count_range D d, hD.len]
  refine countP_two _ (m + 1) P ?_ hP.two
  intro p hp
  obtain ⟨i, hi, rfl⟩ := List.getElem_of_mem hp
  have := (hP.lt i hi).2
  omega

theorem dep_zero {m : Nat} {P D : List Nat} (hP : Par m P) (hD : Dep m P D) : D.count 0 = 1 := by
  rw [dep_map hP hD, List.count_append, List.count_eq_countP, List.countP_map]
  have : List.countP ((fun x => x == 0) ∘ fun p => D.getD p 0 + 1) P = 0 := by
    rw [List.countP_eq_zero]
    intro p _
    simp
  rw [this]
  simp

/-- How many of the list's numbers are d or more. -/
def geq (D : List Nat) (d : Nat) : Nat := D.countP (fun x => decide (d ≤ x))

theorem geq_iff : ∀ (D : List Nat), D.Pairwise (fun a b => b ≤ a) → ∀ (d i : Nat) (hi : i < D.length), (i < geq D d ↔ d ≤ D[i])
  | [], _, _, i, hi => by simp at hi
  | x :: r, h, d, i, hi => by
    rw [List.pairwise_cons] at h
    have ih := geq_iff r h.2 d
    unfold geq at ih ⊢
    rw [List.countP_cons]
    by_cases hx : d ≤ x
    · cases i with
      | zero => simp [hx]
      | succ i => simp [hx]; exact ih i (by simpa using hi)
    · have h0 : r.countP (fun x => decide (d ≤ x)) = 0 := by
        rw [List.countP_eq_zero]
        intro y hy
        have := h.1 y hy
        simp; omega
      cases i with
      | zero => simp [hx, h0]
      | succ i =>
        have hi' : i < r.length := by simpa using hi
        have := h.1 r[i] (List.getElem_mem _)
        simp [hx, h0]; omega

theorem geq_succ (D : List Nat) (d : Nat) : geq D d = D.count d + geq D (d + 1) := by
  unfold geq
  induction D with
  | nil => simp
  | cons x r ih =>
    rw [List.countP_cons, List.countP_cons, List.count_cons, ih]
    by_cases h1 : d ≤ x
    · by_cases h2 : x = d
      · subst h2; simp [show ¬ x + 1 ≤ x by omega]; omega
      · simp [h1, h2, show d + 1 ≤ x by omega]; omega
    · simp [h1, show ¬ d + 1 ≤ x by omega, show x ≠ d by omega]

theorem geq_zero (D : List Nat) : geq D 0 = D.length := by
  unfold geq
  simp

theorem geq_le (D : List Nat) (d : Nat) : geq D d ≤ D.length := List.countP_le_length

/-- Where no internal node stands at depth d, none stands deeper. -/
theorem geq_gap {m : Nat} {P D : List Nat} (hP : Par m P) (hD : Dep m P D) : ∀ k d, m + 1 - k ≤ d → D.count d = 0 → geq D d = 0
  | 0, d, h1, h2 => by
    unfold geq
    rw [List.countP_eq_zero]
    intro x hx
    obtain ⟨i, hi, rfl⟩ := List.getElem_of_mem hx
    have hl := hD.len
    have := dep_le hP hD m i (by omega) (by omega)
    simp [List.getD, hi] at this
    simp; omega
  | k + 1, d, h1, h2 => by
    rw [geq_succ, h2, geq_gap hP hD k (d + 1) (by omega) (by have := dep_two hP hD d; omega)]

/-! ### The leaves' lengths -/
/-- How many nodes, leaves and internal ones, stand at depth d. -/
def avail (D : List Nat) : Nat → Nat
  | 0 => 1
  | d + 1 => 2 * D.count d
/-- The leaves of all depths below d, the deepest first. -/
def lensTo (D : List Nat) : Nat → List Nat
  | 0 => []
  | d + 1 => List.replicate (avail D d - D.count d) d ++ lensTo D d

theorem avail_succ (D : List Nat) (d : Nat) : avail D (d + 1) = 2 * D.count d := rfl
theorem lensTo_succ (D : List Nat) (d : Nat) : lensTo D (d + 1) = List.replicate (avail D d - D.count d) d ++ lensTo D d := rfl

theorem count_avail {m : Nat} {P D : List Nat} (hP : Par m P) (hD : Dep m P D) : ∀ d, D.count d ≤ avail D d
  | 0 => by rw [dep_zero hP hD]; exact Nat.le_refl _
  | d + 1 => dep_two hP hD d

theorem lensTo_length {m : Nat} {P D : List Nat} (hP : Par m P) (hD : Dep m P D) : ∀ d, (lensTo D d).length + avail D d + geq D d = m + 2
  | 0 => by simp only [lensTo, avail, List.length_nil, geq_zero, hD.len]; omega
  | d + 1 => by
    have ih := lensTo_length hP hD d
    have h1 := count_avail hP hD d
    have h2 := geq_succ D d
    rw [lensTo_succ, avail_succ, List.length_append, List.length_replicate]
    omega

/-- So long as nodes are there at depth d the depth is small. -/
theorem depth_small {m : Nat} {P D : List Nat} (hP : Par m P) (hD : Dep m P D) : ∀ d, 0 < avail D d → d ≤ m + 1 ∧ d + geq D d ≤ m + 1
  | 0, _ => by rw [geq_zero, hD.len]; omega
  | d + 1, h => by
    have h1 : 0 < D.count d := by simp only [avail] at h; omega
    have h2 := count_avail hP hD d
    have ih := depth_small hP hD d (by omega)
    have h3 := geq_succ D d
    omega

/-- Where none is left: all leaves have their lengths. -/
theorem lens_end {m : Nat} {P D : List Nat} (hP : Par m P) (hD : Dep m P D) (d : Nat) (h : avail D d = 0) : (lensTo D d).length = m + 2 ∧ ∀ j, lensTo D (d + j) = lensTo D d ∧ avail D (d + j) = 0 := by
  have hd : 1 ≤ d := by
    cases d with
    | zero => simp [avail] at h
    | succ d => omega
  obtain ⟨e, rfl⟩ : ∃ e, d = e + 1 := ⟨d - 1, by omega⟩
  have h0 : D.count e = 0 := by simp only [avail] at h; omega
  have hg := geq_gap hP hD (m + 1) e (by omega) h0
  have hs := geq_succ D e
  refine ⟨by have := lensTo_length hP hD (e + 1); omega, ?_⟩
  intro j
  induction j with
  | zero => exact ⟨rfl, h⟩
  | succ j ih =>
    have h1 := count_avail hP hD (e + 1 + j)
    rw [ih.2] at h1
    refine ⟨?_, ?_⟩
    · show lensTo D (e + 1 + j + 1) = _
      rw [lensTo_succ, ih.1, ih.2]
      simp
    · show avail D (e + 1 + j + 1) = 0
      rw [avail_succ]
      omega

/-- The lengths. -/
def lens (m : Nat) (D : List Nat) : List Nat := lensTo D (m + 2)

theorem lens_of_end {m : Nat} {P D : List Nat} (hP : Par m P) (hD : Dep m P D) (d : Nat) (h : avail D d = 0) (hd : d ≤ m + 2) : lensTo D d = lens m D := by
  have := (lens_end hP hD d h).2 (m + 2 - d)
  rw [show d + (m + 2 - d) = m + 2 from by omega] at this
  exact this.1.symm

theorem avail_end {m : Nat} {P D : List Nat} (hP : Par m P) (hD : Dep m P D) : avail D (m + 2) = 0 := by
  rcases Nat.eq_zero_or_pos (avail D (m + 2)) with h | h
  · exact h
  · have := (depth_small hP hD (m + 2) h).1
    omega

theorem lens_length {m : Nat} {P D : List Nat} (hP : Par m P) (hD : Dep m P D) : (lens m D).length = m + 2 := (lens_end hP hD (m + 2) (avail_end hP hD)).1

theorem lensTo_mem (D : List Nat) : ∀ d x, x ∈ lensTo D d → x < d ∧ 0 < avail D x - D.count x
  | 0, x, h => by simp [lensTo] at h
  | d + 1, x, h => by
    simp only [lensTo, List.mem_append, List.mem_replicate] at h
    rcases h with h | h
    · obtain ⟨h1, rfl⟩ := h; omega
    · have := lensTo_mem D d x h; omega

theorem lensTo_pairwise (D : List Nat) : ∀ d, (lensTo D d).Pairwise (fun a b => b ≤ a)
  | 0 => by simp [lensTo]
  | d + 1 => by
    simp only [lensTo]
    rw [List.pairwise_append]
    refine ⟨by rw [List.pairwise_replicate]; omega, lensTo_pairwise D d, ?_⟩
    intro a ha b hb
    have h1 := (List.mem_replicate.1 ha).2
    have h2 := lensTo_mem D d b hb
    omega

theorem lensTo_count (D : List Nat) : ∀ d x, (lensTo D d).count x = if x < d then avail D x - D.count x else 0
  | 0, x => by simp [lensTo]
  | d + 1, x => by
    simp only [lensTo, List.count_append, lensTo_count D d x, List.count_replicate]
    by_cases h : x = d
    · subst h; simp
    · by_cases h1 : x < d
      · simp [h1, Ne.symm h, show x < d + 1 by omega]
      · simp [h1, Ne.symm h, show ¬ x < d + 1 by omega]

/-- What a list of code lengths must be for 'completeNonincreasing' to say yes. 'N d': the internal nodes at depth d. -/
structure Full (n : Nat) (N : Nat → Nat) (C : List Nat) : Prop where
  len : C.length = n
  one : ∀ x ∈ C, 1 ≤ x ∧ x ≤ n - 1
  down : C.Pairwise (fun a b => b ≤ a)
  root : N 0 = 1
  last : N (n - 1) = 0
  pair : ∀ d, 1 ≤ d → d ≤ n - 1 → C.count d + N d = 2 * N (d - 1)
  small : ∀ d, N d ≤ n

theorem full_lens {m : Nat} {P D : List Nat} (hP : Par m P) (hD : Dep m P D) : Full (m + 2) (fun d => D.count d) (lens m D) := by
  refine ⟨lens_length hP hD, ?_, lensTo_pairwise D _, dep_zero hP hD, ?_, ?_, ?_⟩
  · intro x hx
    have h := lensTo_mem D (m + 2) x hx
    refine ⟨?_, by omega⟩
    rcases Nat.eq_zero_or_pos x with h0 | h0
    · subst h0
      have := dep_zero hP hD
      simp only [avail] at h
      omega
    · exact h0
  · show D.count (m + 1) = 0
    have := avail_end hP hD
    simp only [avail] at this
    omega
  · intro d h1 h2
    obtain ⟨e, rfl⟩ : ∃ e, d = e + 1 := ⟨d - 1, by omega⟩
    have := count_avail hP hD (e + 1)
    unfold lens
    rw [lensTo_count, if_pos (by omega)]
    simp only [avail_succ, Nat.add_sub_cancel] at this ⊢
    omega
  · intro d
    have := List.count_le_length (a := d) (l := D)
    have := hD.len
    show D.count d ≤ m + 2
    omega

/-- The whole function. -/
def hl (w : List Nat) : List Nat := lens (w.length - 2) (depths 0 (parents w))

theorem hl_length (w : List Nat) (hw : 2 ≤ w.length) : (hl w).length = w.length := by
  unfold hl
  rw [lens_length (par_parents w hw) (dep_depths (par_parents w hw))]
  omega
theorem hl_scale (k : Nat) (hk : 1 ≤ k) (w : List Nat) : hl (w.map (k * ·)) = hl w := by
  unfold hl
  rw [parents_scale k hk, List.length_map]
theorem hl_full (w : List Nat) (hw : 2 ≤ w.length) : Full w.length (fun d => (depths 0 (parents w)).count d) (hl w) := by
  have h := full_lens (par_parents w hw) (dep_depths (par_parents w hw))
  rw [show w.length - 2 + 2 = w.length from by omega] at h
  exact h
end Go.Proofs.Qxb6605568a.Huff
