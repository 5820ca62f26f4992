/-
  THE PLAIN MATHEMATICS of the cost: 'mc': merge the two least, again and again; the two queues of the first pass do just that.
-/
import Derived.Test.Qxb6605568aDepth
namespace Go.Proofs.Qxb6605568a.Huff

def srt (l : List Nat) : List Nat := l.mergeSort (fun a b => decide (a ≤ b))
theorem srt_perm (l : List Nat) : (srt l).Perm l := List.mergeSort_perm _ _
theorem srt_sorted (l : List Nat) : (srt l).Pairwise (· ≤ ·) := by
  have h := List.pairwise_mergeSort (le := fun a b : Nat => decide (a ≤ b)) (by simp; omega) (by simp; omega) l
  simpa [srt] using h
theorem sorted_eq {l l' : List Nat} (h : l.Pairwise (· ≤ ·)) (h' : l'.Pairwise (· ≤ ·)) (hp : l.Perm l') : l = l' :=
  List.Perm.eq_of_pairwise (fun _ _ _ _ h1 h2 => Nat.le_antisymm h1 h2) h h' hp
theorem srt_eq {l l' : List Nat} (hp : l.Perm l') : srt l = srt l' := sorted_eq (srt_sorted l) (srt_sorted l') ((srt_perm l).trans (hp.trans (srt_perm l').symm))
theorem srt_cons {l r : List Nat} {x : Nat} (hp : l.Perm (x :: r)) (hx : ∀ z ∈ r, x ≤ z) : srt l = x :: srt r :=
  sorted_eq (srt_sorted l) (List.pairwise_cons.2 ⟨fun z hz => hx z ((srt_perm r).subset hz), srt_sorted r⟩) ((srt_perm l).trans (hp.trans ((srt_perm r).symm.cons x)))

/-- k merges of the two least: the sum of what they come to. -/
def mc : Nat → List Nat → Nat
  | 0, _ => 0
  | k + 1, l => match srt l with
    | x :: y :: r => (x + y) + mc k ((x + y) :: r)
    | _ => 0

theorem mc_perm {l l' : List Nat} (hp : l.Perm l') : ∀ k, mc k l = mc k l'
  | 0 => rfl
  | k + 1 => by simp only [mc, srt_eq hp]

theorem mc_step {l r : List Nat} {x y : Nat} (k : Nat) (hp : l.Perm (x :: y :: r)) (hx : x ≤ y) (hy : ∀ z ∈ r, y ≤ z) : mc (k + 1) l = (x + y) + mc k ((x + y) :: r) := by
  have h1 : srt l = x :: y :: srt r := by
    rw [srt_cons hp (fun z hz => by rcases List.mem_cons.1 hz with h | h; · omega
                                    · have := hy z h; omega), srt_cons (List.Perm.refl (y :: r)) hy]
  simp only [mc, h1]
  rw [mc_perm ((srt_perm r).cons (x + y)) k]

/-! ### The two queues take the two least -/
theorem drop_sorted {w : List Nat} (h : w.Pairwise (· ≤ ·)) (i : Nat) : (w.drop i).Pairwise (· ≤ ·) := h.sublist (List.drop_sublist i w)
theorem drop_head {w : List Nat} (h : w.Pairwise (· ≤ ·)) (i : Nat) : ∀ z ∈ w.drop i, w.getD i 0 ≤ z := by
  intro z hz
  by_cases hi : i < w.length
  · have hs := drop_sorted h i
    rw [List.drop_eq_getElem_cons hi] at hs hz
    rcases List.mem_cons.1 hz with e | e
    · subst e; simp [List.getD, hi]
    · have := (List.pairwise_cons.1 hs).1 z e
      simpa [List.getD, hi] using this
  · rw [List.drop_of_length_le (by omega)] at hz
    simp at hz

theorem pick_least {w : List Nat} (hw : w.Pairwise (· ≤ ·)) (t : Nat) (s : St) (hI : s.I.Pairwise (· ≤ ·)) (hne : s.I ≠ [] ∨ s.leaf < w.length) :
    (s.I ++ w.drop s.leaf).Perm ((pick w t s).1 :: ((pick w t s).2.I ++ w.drop (pick w t s).2.leaf)) ∧ (∀ z ∈ (pick w t s).2.I ++ w.drop (pick w t s).2.leaf, (pick w t s).1 ≤ z) ∧
      (pick w t s).2.I.Pairwise (· ≤ ·) ∧ (∀ z ∈ (pick w t s).2.I, z ∈ s.I) := by
  obtain ⟨P, I, leaf⟩ := s
  simp only at hI hne
  have leafy : leaf < w.length → (I ++ w.drop leaf).Perm (w.getD leaf 0 :: (I ++ w.drop (leaf + 1))) := by
    intro hl
    rw [List.drop_eq_getElem_cons hl]
    have : w.getD leaf 0 = w[leaf] := by simp [List.getD, hl]
    rw [this]
    exact List.perm_middle
  cases I with
  | nil =>
    have hl : leaf < w.length := by simpa using hne
    refine ⟨leafy hl, ?_, by simp [pick], by simp [pick]⟩
    intro z hz
    simp only [pick, List.nil_append] at hz ⊢
    exact drop_head hw leaf z (List.mem_of_mem_drop (i := 1) (by rw [List.drop_drop]; exact hz))
  | cons x r =>
    by_cases hc : w.length ≤ leaf ∨ x < w.getD leaf 0
    · rw [pick_root hc]
      refine ⟨List.Perm.refl _, ?_, (List.pairwise_cons.1 hI).2, fun z hz => List.mem_cons_of_mem _ hz⟩
      intro z hz
      rcases List.mem_append.1 hz with h | h
      · exact (List.pairwise_cons.1 hI).1 z h
      · rcases hc with hc | hc
        · simp only at h
          rw [List.drop_of_length_le (by omega)] at h
          simp at h
        · have := drop_head hw leaf z h
          simp only
          omega
    · have hl : leaf < w.length := by omega
      rw [pick_leaf (fun x' r' e => by simp only [List.cons.injEq] at e; obtain ⟨rfl, rfl⟩ := e; exact hc)]
      refine ⟨leafy hl, ?_, hI, fun z hz => hz⟩
      intro z hz
      rcases List.mem_append.1 hz with h | h
      · have h1 : x ≤ z := by
          rcases List.mem_cons.1 h with e | e
          · omega
          · exact (List.pairwise_cons.1 hI).1 z e
        simp only
        omega
      · exact drop_head hw leaf z (List.mem_of_mem_drop (i := 1) (by rw [List.drop_drop]; exact h))

/-- What the two queues hold is in order, and twice the least is at least every internal node's weight. -/
structure Ord (w : List Nat) (s : St) : Prop where
  up : s.I.Pairwise (· ≤ ·)
  least : ∃ e, (∀ z ∈ s.I ++ w.drop s.leaf, e ≤ z) ∧ ∀ z ∈ s.I, z ≤ 2 * e

theorem ord_step {w : List Nat} (hw : w.Pairwise (· ≤ ·)) {t : Nat} {s : St} (hI : Inv w t s) (h : Ord w s) (ht : t + 1 < w.length) (k : Nat) :
    Ord w (step w t s) ∧ mc (k + 1) (s.I ++ w.drop s.leaf) = ((pick w t s).1 + (pick w t (pick w t s).2).1) + mc k ((step w t s).I ++ w.drop (step w t s).leaf) := by
  obtain ⟨hup, e, he1, he2⟩ := h
  have m1 := hI.mid.pick (show t + 0 < w.length by omega)
  have a := pick_least hw t s hup (.inl (by intro e; have := hI.pos; rw [e] at this; simp at this))
  have hne : (pick w t s).2.I ≠ [] ∨ (pick w t s).2.leaf < w.length := by
    by_cases h0 : (pick w t s).2.I = []
    · right
      have h1 := m1.len
      have h2 := m1.cnt
      rw [h0] at h1
      simp at h1
      omega
    · exact .inl h0
  have b := pick_least hw t (pick w t s).2 a.2.2.1 hne
  generalize hx : (pick w t s).1 = x at *
  generalize hs1 : (pick w t s).2 = s1 at *
  generalize hy : (pick w t s1).1 = y at *
  generalize hs2 : (pick w t s1).2 = s2 at *
  have hst : step w t s = ⟨s2.P, s2.I ++ [x + y], s2.leaf⟩ := by simp only [step, hx, hs1, hy, hs2]
  have hxy : x ≤ y := a.2.1 y (b.1.symm.subset (by simp))
  have hxe : e ≤ x := he1 x (a.1.symm.subset (by simp))
  have hye : e ≤ y := by omega
  have hmem : ∀ z ∈ s2.I, z ∈ s.I := fun z hz => a.2.2.2 z (b.2.2.2 z hz)
  have perm : (s.I ++ w.drop s.leaf).Perm (x :: y :: (s2.I ++ w.drop s2.leaf)) := a.1.trans (b.1.cons x)
  rw [hst]
  refine ⟨⟨?_, y, ?_, ?_⟩, ?_⟩
  · simp only
    rw [List.pairwise_append]
    refine ⟨b.2.2.1, by simp, ?_⟩
    intro u hu v hv
    have := he2 u (hmem u hu)
    simp at hv
    omega
  · intro z hz
    simp only [List.append_assoc, List.mem_append, List.mem_singleton] at hz
    rcases hz with h | h | h
    · exact b.2.1 z (List.mem_append_left _ h)
    · omega
    · exact b.2.1 z (List.mem_append_right _ h)
  · intro z hz
    simp only [List.mem_append, List.mem_singleton] at hz
    rcases hz with h | h
    · have := he2 z (hmem z h); omega
    · omega
  · rw [mc_step k perm hxy b.2.1]
    congr 1
    apply mc_perm
    simp only [List.append_assoc, List.singleton_append]
    exact List.perm_middle.symm

/-- What the steps 1, .., j made, and the first node. -/
def merged (w : List Nat) : Nat → Nat
  | 0 => w.getD 0 0 + w.getD 1 0
  | j + 1 => merged w j + ((pick w (j + 1) (sim w j)).1 + (pick w (j + 1) (pick w (j + 1) (sim w j)).2).1)

theorem ord_sim (w : List Nat) (hl : 2 ≤ w.length) (hw : w.Pairwise (· ≤ ·)) : ∀ j k, j + 1 < w.length → Ord w (sim w j) ∧ merged w j + mc k ((sim w j).I ++ w.drop (sim w j).leaf) = mc (j + 1 + k) w
  | 0, k, _ => by
    match w, hl with
    | a :: b :: r, _ =>
      rw [List.pairwise_cons, List.pairwise_cons] at hw
      obtain ⟨h1, h2, h3⟩ := hw
      have hab : a ≤ b := h1 b (by simp)
      have hst := mc_step (l := a :: b :: r) (r := r) k (List.Perm.refl _) hab h2
      refine ⟨⟨by simp [sim], b, ?_, ?_⟩, ?_⟩
      · intro z hz
        simp [sim] at hz
        rcases hz with h | h
        · omega
        · exact h2 z h
      · intro z hz
        simp [sim] at hz
        omega
      · rw [show 0 + 1 + k = k + 1 from by omega, hst]
        simp [sim, merged]
  | j + 1, k, h => by
    obtain ⟨h1, h2⟩ := ord_sim w hl hw j (k + 1) (by omega)
    have hI := inv_sim w hl j (by omega)
    have hs := ord_step hw hI h1 (by omega) k
    refine ⟨hs.1, ?_⟩
    rw [show j + 1 + 1 + k = j + 1 + (k + 1) from by omega, ← h2, hs.2]
    simp only [merged, sim]
    omega

/-- The two queues' merges cost what merging the two least costs. -/
theorem merged_mc (w : List Nat) (hl : 2 ≤ w.length) (hw : w.Pairwise (· ≤ ·)) : merged w (w.length - 2) = mc (w.length - 1) w := by
  have := (ord_sim w hl hw (w.length - 2) 0 (by omega)).2
  rw [show w.length - 2 + 1 + 0 = w.length - 1 from by omega] at this
  simpa [mc] using this
end Go.Proofs.Qxb6605568a.Huff
