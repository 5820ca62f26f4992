/-
  THE PLAIN MATHEMATICS of the binary heap: sifting up, sifting down.
-/
import Derived.Test.Qxb6605568aCost
namespace Go.Proofs.Qxb6605568a.Huff

def Heap (h : List Nat) : Prop := ∀ j, 0 < j → j < h.length → h.getD ((j - 1) / 2) 0 ≤ h.getD j 0

theorem heap_min {h : List Nat} (hh : Heap h) : ∀ k j, j ≤ k → j < h.length → h.getD 0 0 ≤ h.getD j 0
  | 0, j, h1, _ => by
    have : j = 0 := by omega
    subst this
    exact Nat.le_refl _
  | k + 1, j, h1, h2 => by
    by_cases h0 : j = 0
    · subst h0; exact Nat.le_refl _
    · have a := hh j (by omega) h2
      have b := heap_min hh k ((j - 1) / 2) (by omega) (by omega)
      omega

theorem getD_set (h : List Nat) (i j v : Nat) (hi : i < h.length) : (h.set i v).getD j 0 = if i = j then v else h.getD j 0 := by
  simp only [List.getD, List.getElem?_set]
  by_cases e : i = j
  · subst e; simp [hi]
  · simp [e]

/-- Two elements change places. -/
def swp (h : List Nat) (p i : Nat) : List Nat := (h.set p (h.getD i 0)).set i (h.getD p 0)
theorem swp_length (h : List Nat) (p i : Nat) : (swp h p i).length = h.length := by simp [swp]
theorem swp_getD (h : List Nat) (p i j : Nat) (hp : p < h.length) (hi : i < h.length) : (swp h p i).getD j 0 = if i = j then h.getD p 0 else if p = j then h.getD i 0 else h.getD j 0 := by
  rw [swp, getD_set _ _ _ _ (by simpa using hi), getD_set _ _ _ _ hp]
theorem swp_perm (h : List Nat) (p i : Nat) (hp : p < h.length) (hi : i < h.length) (hne : p ≠ i) : (swp h p i).Perm h := by
  rw [List.perm_iff_count]
  intro a
  have e1 : h.getD i 0 = h[i] := by simp [List.getD, hi]
  have e2 : h.getD p 0 = h[p] := by simp [List.getD, hp]
  have hx : (if h[p] == a then 1 else 0) ≤ h.count a := by
    by_cases e : h[p] = a
    · simp [e]
      exact e ▸ List.getElem_mem hp
    · simp [e]
  have hg : (h.set p h[i])[i]'(by simpa using hi) = h[i] := by
    rw [List.getElem_set_ne (by omega)]
  have s1 : (h.set p h[i]).count a = h.count a - (if h[p] == a then 1 else 0) + if h[i] == a then 1 else 0 := by
    rw [List.count_set hp]
  rw [swp, e1, e2, List.count_set (by simpa using hi), hg, s1]
  generalize (if h[p] == a then 1 else 0) = u at *
  generalize (if h[i] == a then 1 else 0) = v at *
  omega

/-! ### Up -/
def Up (h : List Nat) (i : Nat) : Prop :=
  (∀ j, 0 < j → j < h.length → j ≠ i → h.getD ((j - 1) / 2) 0 ≤ h.getD j 0) ∧ (∀ j, 0 < j → j < h.length → (j - 1) / 2 = i → 0 < i → h.getD ((i - 1) / 2) 0 ≤ h.getD j 0)

theorem up_start {h : List Nat} (hh : Heap h) (v : Nat) : Up (h ++ [v]) h.length := by
  refine ⟨?_, ?_⟩
  · intro j h1 h2 h3
    have hj : j < h.length := by simp at h2; omega
    have := hh j h1 hj
    simpa [List.getD, List.getElem?_append_left hj, List.getElem?_append_left (show (j - 1) / 2 < h.length by omega)] using this
  · intro j h1 h2 h3 h4
    simp at h2
    omega
theorem up_done {h : List Nat} {i : Nat} (hu : Up h i) (hi : i = 0 ∨ h.getD ((i - 1) / 2) 0 ≤ h.getD i 0) : Heap h := by
  intro j h1 h2
  by_cases e : j = i
  · subst e
    rcases hi with hi | hi
    · omega
    · exact hi
  · exact hu.1 j h1 h2 e
theorem up_swap {h : List Nat} {i p : Nat} (hu : Up h i) (h0 : 0 < i) (hi : i < h.length) (hp : p = (i - 1) / 2) (hlt : h.getD i 0 < h.getD p 0) : Up (swp h p i) p := by
  have hpl : p < h.length := by omega
  have hpi : p ≠ i := by omega
  refine ⟨?_, ?_⟩
  · intro j h1 h2 h3
    rw [swp_length] at h2
    rw [swp_getD _ _ _ _ hpl hi, swp_getD _ _ _ _ hpl hi]
    by_cases e : j = i
    · subst e
      rw [← hp]
      simp only [Ne.symm hpi, ↓reduceIte]
      omega
    · have a := hu.1 j h1 h2 e
      have b := hu.2 j h1 h2
      by_cases e2 : (j - 1) / 2 = i
      · have := b e2 h0
        rw [← hp] at this
        simp only [e2, Ne.symm e, Ne.symm h3, ↓reduceIte]
        exact this
      · by_cases e3 : (j - 1) / 2 = p
        · rw [e3] at a
          simp only [Ne.symm e, Ne.symm h3, e3, Ne.symm hpi, ↓reduceIte]
          omega
        · simp [Ne.symm e, Ne.symm h3, Ne.symm e2, Ne.symm e3]
          exact a
  · intro j h1 h2 h3 h4
    rw [swp_length] at h2
    rw [swp_getD _ _ _ _ hpl hi, swp_getD _ _ _ _ hpl hi]
    have c := hu.1 p h4 hpl hpi
    have hq1 : (p - 1) / 2 ≠ i := by omega
    have hq2 : (p - 1) / 2 ≠ p := by omega
    by_cases e : j = i
    · subst e
      simp only [Ne.symm hq1, Ne.symm hq2, ↓reduceIte]
      exact c
    · have a := hu.1 j h1 h2 e
      rw [h3] at a
      have hjp : j ≠ p := by omega
      simp only [Ne.symm hq1, Ne.symm hq2, Ne.symm e, Ne.symm hjp, ↓reduceIte]
      omega

/-! ### Down -/
def Dn (h : List Nat) (i : Nat) : Prop :=
  (∀ j, 0 < j → j < h.length → (j - 1) / 2 ≠ i → h.getD ((j - 1) / 2) 0 ≤ h.getD j 0) ∧ (∀ j, 0 < j → j < h.length → (j - 1) / 2 = i → 0 < i → h.getD ((i - 1) / 2) 0 ≤ h.getD j 0)

/-- The last goes to the head, the list loses its last. -/
def cutTop (h : List Nat) : List Nat := (h.set 0 (h.getD (h.length - 1) 0)).take (h.length - 1)
theorem cutTop_length (h : List Nat) : (cutTop h).length = h.length - 1 := by simp [cutTop]
theorem cutTop_getD (h : List Nat) (j : Nat) (hj : j < h.length - 1) : (cutTop h).getD j 0 = if 0 = j then h.getD (h.length - 1) 0 else h.getD j 0 := by
  have : (cutTop h).getD j 0 = (h.set 0 (h.getD (h.length - 1) 0)).getD j 0 := by
    simp only [cutTop, List.getD]
    rw [List.getElem?_take_of_lt hj]
  rw [this, getD_set _ _ _ _ (by omega)]
theorem cutTop_perm (h : List Nat) (hn : 1 ≤ h.length) : h.Perm (h.getD 0 0 :: cutTop h) := by
  match h, hn with
  | x :: r, _ =>
    rcases List.eq_nil_or_concat r with e | ⟨a, b, e⟩
    · subst e; simp [cutTop]
    · subst e
      have e1 : (x :: (a ++ [b])).getD ((x :: (a ++ [b])).length - 1) 0 = b := by simp [List.getD]
      have e2 : cutTop (x :: (a ++ [b])) = b :: a := by
        rw [cutTop, e1]
        simp
      rw [List.concat_eq_append, e2]
      simp only [List.getD, List.getElem?_cons_zero, Option.getD_some]
      refine List.Perm.cons x ?_
      exact List.perm_append_comm

theorem dn_start {h : List Nat} (hh : Heap h) : Dn (cutTop h) 0 := by
  refine ⟨?_, fun j _ _ _ h4 => by omega⟩
  intro j h1 h2 h3
  rw [cutTop_length] at h2
  rw [cutTop_getD _ _ (by omega), cutTop_getD _ _ h2]
  have := hh j h1 (by omega)
  simp only [Ne.symm h3, show 0 ≠ j by omega, ↓reduceIte]
  exact this
theorem dn_done {h : List Nat} {i : Nat} (hd : Dn h i) (hi : ∀ j, 0 < j → j < h.length → (j - 1) / 2 = i → h.getD i 0 ≤ h.getD j 0) : Heap h := by
  intro j h1 h2
  by_cases e : (j - 1) / 2 = i
  · rw [e]; exact hi j h1 h2 e
  · exact hd.1 j h1 h2 e
theorem dn_swap {h : List Nat} {i m : Nat} (hd : Dn h i) (hm0 : 0 < m) (hm : m < h.length) (hmi : (m - 1) / 2 = i) (hlt : h.getD m 0 < h.getD i 0) (hmin : ∀ j, 0 < j → j < h.length → (j - 1) / 2 = i → h.getD m 0 ≤ h.getD j 0) : Dn (swp h i m) m := by
  have hil : i < h.length := by omega
  have him : i ≠ m := by omega
  refine ⟨?_, ?_⟩
  · intro j h1 h2 h3
    rw [swp_length] at h2
    rw [swp_getD _ _ _ _ hil hm, swp_getD _ _ _ _ hil hm]
    by_cases e : (j - 1) / 2 = i
    · have a := hmin j h1 h2 e
      have hji : j ≠ i := by omega
      by_cases e2 : j = m
      · subst e2
        simp only [e, Ne.symm him, ↓reduceIte]
        omega
      · simp only [e, Ne.symm him, Ne.symm e2, Ne.symm hji, ↓reduceIte]
        exact a
    · have a := hd.1 j h1 h2 e
      have hjm : j ≠ m := by intro x; subst x; exact e hmi
      by_cases e2 : j = i
      · subst e2
        have b := hd.2 m hm0 hm hmi h1
        simp only [Ne.symm h3, Ne.symm e, Ne.symm hjm, ↓reduceIte]
        exact b
      · simp only [Ne.symm h3, Ne.symm e, Ne.symm hjm, Ne.symm e2, ↓reduceIte]
        exact a
  · intro j h1 h2 h3 h4
    rw [swp_length] at h2
    rw [swp_getD _ _ _ _ hil hm, swp_getD _ _ _ _ hil hm, hmi]
    have a := hd.1 j h1 h2 (by omega)
    rw [h3] at a
    have hjm : j ≠ m := by omega
    have hji : j ≠ i := by omega
    simp only [Ne.symm him, Ne.symm hjm, Ne.symm hji, ↓reduceIte]
    exact a

/-- What a heap's head is among its elements. -/
theorem heap_head {h : List Nat} (hh : Heap h) (hn : 1 ≤ h.length) : ∀ z ∈ cutTop h, h.getD 0 0 ≤ z := by
  intro z hz
  have : z ∈ h := (cutTop_perm h hn).symm.subset (List.mem_cons_of_mem _ hz)
  obtain ⟨j, hj, rfl⟩ := List.getElem_of_mem this
  have := heap_min hh h.length j (by omega) hj
  simpa [List.getD, hj] using this
end Go.Proofs.Qxb6605568a.Huff
