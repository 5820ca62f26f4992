/-
  A row of numbers in one block of the call's own, written in place; the array of the first pass, as a list.
-/
import Derived.Test.Qxb6605568aClone
import Derived.Test.Qxb6605568aDepth
import Derived.Deep.QuietTactic
import Derived.BigQuiet
namespace Go.Proofs.Qxb6605568a
open Go.RowKit
set_option linter.unusedVariables false

def nats (xs : List Nat) : List Int := xs.map (fun n : Nat => (n : Int))
theorem nats_length (xs : List Nat) : (nats xs).length = xs.length := by simp [nats]
theorem nats_getD (xs : List Nat) (i : Nat) : (nats xs).getD i 0 = ((xs.getD i 0 : Nat) : Int) := by
  simp only [nats, List.getD, List.getElem?_map]
  cases xs[i]? <;> simp
theorem nats_set (xs : List Nat) (i v : Nat) : nats (xs.set i v) = (nats xs).set i (v : Int) := by simp [nats, List.map_set]

/-- Block g of wr holds just the numbers xs; all else is as in w0. -/
structure Row (k : IntKind) (ty : TypeId) (g : Nat) (w0 : World) (xs : List Nat) (wr : World) : Prop where
  here : wr.heap[g]? = some (.cells (cellsOf k (nats xs)) ty (0, 0))
  os : wr.os = w0.os
  tape : wr.tape = w0.tape
  output : wr.output = w0.output
  size : wr.heap.size = w0.heap.size
  other : ∀ j, j ≠ g → wr.heap[j]? = w0.heap[j]?

section
variable {k : IntKind} {ty : TypeId} {g : Nat} {w0 wr : World} {xs : List Nat}
theorem Row.cell (h : Row k ty g w0 xs wr) (i : Nat) (hi : i < xs.length) : wr.cell? ⟨g, i, none⟩ = some (.int k ((xs.getD i 0 : Nat) : Int)) := by
  rw [cell_of_row wr g i _ ty (0, 0) h.here, cellsOf_get k (nats xs) i (by rw [nats_length]; exact hi), nats_getD]
theorem Row.frozen (h : Row k ty g w0 xs wr) (i : Nat) : wr.frozen? ⟨g, i, none⟩ = false := frozen_of_row wr g i _ ty h.here
theorem Row.drew (h : Row k ty g w0 xs wr) : Row k ty g w0 xs wr.drew := ⟨h.here, h.os, h.tape, h.output, h.size, h.other⟩
theorem Row.drewN (h : Row k ty g w0 xs wr) (n : Nat) : Row k ty g w0 xs (wr.drewN n) := ⟨h.here, h.os, h.tape, h.output, h.size, h.other⟩
theorem Row.set (h : Row k ty g w0 xs wr) (i v : Nat) (z : Int) (hz : z = (v : Int)) : Row k ty g w0 (xs.set i v) (wr.setCell ⟨g, i, none⟩ (.int k z)) := by
  subst hz
  refine ⟨?_, h.os, h.tape, h.output, by simpa [World.setCell] using h.size, fun j hj => (heap_setCell_other wr ⟨g, i, none⟩ j _ hj).trans (h.other j hj)⟩
  rw [heap_setCell_same wr g i _ ty _ h.here, cellsOf_set, nats_set]
end
theorem Row.start {k : IntKind} {ty : TypeId} {g : Nat} {w : World} {xs : List Nat} (h : w.heap[g]? = some (.cells (cellsOf k (nats xs)) ty (0, 0))) : Row k ty g w xs w := ⟨h, rfl, rfl, rfl, rfl, fun _ _ => rfl⟩

/-! ### The array of the first pass -/
namespace Huff
theorem set_mid (A B : List Nat) (y x i : Nat) (hi : i = A.length) : (A ++ y :: B).set i x = A ++ x :: B := by
  subst hi
  rw [List.set_append_right _ _ (Nat.le_refl _)]
  simp
theorem getD_mid (A B : List Nat) (y i : Nat) (hi : i = A.length) : (A ++ y :: B).getD i 0 = y := by
  subst hi
  simp [List.getD]
theorem drop_cons (w : List Nat) (t : Nat) (h : t < w.length) : w.drop t = w.getD t 0 :: w.drop (t + 1) := by
  rw [List.drop_eq_getElem_cons h]
  simp [List.getD, h]

/-- At a round's head. -/
def arr (w : List Nat) (P I : List Nat) (t : Nat) : List Nat := P ++ (I ++ w.drop t)
/-- Behind the first choice, which came to x. -/
def arr1 (w : List Nat) (P I : List Nat) (x t : Nat) : List Nat := P ++ (I ++ x :: w.drop (t + 1))

section
variable {w P I r : List Nat} {x y t l : Nat}
theorem arr_length (h : P.length + I.length = t) (ht : t ≤ w.length) : (arr w P I t).length = w.length := by simp [arr]; omega
theorem arr1_length (h : P.length + I.length = t) (ht : t < w.length) : (arr1 w P I x t).length = w.length := by simp [arr1]; omega
theorem arr_root : (arr w P (x :: r) t).getD P.length 0 = x := getD_mid P _ x _ rfl
theorem arr_leaf (h : P.length + I.length = t) (hl : t ≤ l) : (arr w P I t).getD l 0 = w.getD l 0 := by
  simp only [arr, List.getD]
  rw [List.getElem?_append_right (by omega), List.getElem?_append_right (by omega), List.getElem?_drop]
  congr 2
  omega
theorem arr1_root : (arr1 w P (y :: r) x t).getD P.length 0 = y := getD_mid P _ y _ rfl
theorem arr1_next (h : P.length + I.length = t) : (arr1 w P I x t).getD t 0 = x := by
  rw [arr1, ← List.append_assoc]
  exact getD_mid (P ++ I) _ x _ (by simp; omega)
theorem arr1_leaf (h : P.length + I.length = t) (hl : t < l) : (arr1 w P I x t).getD l 0 = w.getD l 0 := by
  simp only [arr1, List.getD]
  rw [List.getElem?_append_right (by omega), List.getElem?_append_right (by omega), List.getElem?_cons, if_neg (by omega), List.getElem?_drop]
  congr 2
  omega
/-- The first choice takes the internal node. -/
theorem arr_take (h : P.length + (x :: r).length = t) (ht : t < w.length) : ((arr w P (x :: r) t).set t x).set P.length t = arr1 w (P ++ [t]) r x t := by
  have e1 : (arr w P (x :: r) t).set t x = P ++ (x :: r) ++ x :: w.drop (t + 1) := by
    rw [arr, drop_cons w t ht, ← List.append_assoc]
    exact set_mid (P ++ x :: r) _ _ x t (by simp at h ⊢; omega)
  rw [e1, List.append_assoc, List.cons_append, set_mid P _ x t _ rfl]
  simp [arr1]
/-- It takes the leaf. -/
theorem arr_put (h : P.length + I.length = t) (ht : t < w.length) : (arr w P I t).set t y = arr1 w P I y t := by
  rw [arr, drop_cons w t ht, ← List.append_assoc, set_mid (P ++ I) _ _ y t (by simp; omega), arr1, List.append_assoc]
/-- The second choice takes the internal node. -/
theorem arr1_take (h : P.length + (y :: r).length = t) : ((arr1 w P (y :: r) x t).set t (x + y)).set P.length t = arr w (P ++ [t]) (r ++ [x + y]) (t + 1) := by
  have e1 : (arr1 w P (y :: r) x t).set t (x + y) = P ++ (y :: r) ++ (x + y) :: w.drop (t + 1) := by
    rw [arr1, ← List.append_assoc]
    exact set_mid (P ++ y :: r) _ _ _ t (by simp at h ⊢; omega)
  rw [e1, List.append_assoc, List.cons_append, set_mid P _ y t _ rfl]
  simp [arr]
/-- It takes the leaf. -/
theorem arr1_put (h : P.length + I.length = t) : (arr1 w P I x t).set t (x + y) = arr w P (I ++ [x + y]) (t + 1) := by
  rw [arr1, ← List.append_assoc, set_mid (P ++ I) _ _ _ t (by simp; omega)]
  simp [arr]
end
theorem arr_start (w : List Nat) (hw : 2 ≤ w.length) : w.set 0 (w.getD 0 0 + w.getD 1 0) = arr w [] [w.getD 0 0 + w.getD 1 0] 1 := by
  match w, hw with
  | a :: b :: r, _ => simp [arr]
end Huff
end Go.Proofs.Qxb6605568a
