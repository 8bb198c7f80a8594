/-
  THE WINDOW AS PLAIN DATA: no Go in sight.
-/
import Derived.Test.Qxb6617322aFloat
namespace Go.Proofs.Qxb6617322a
open Fl

/-- The left-to-right sum, and the sum of squares, by the canonical operations. -/
def sumC (l : List Nat) : Nat := l.foldl addC 0
def sqC (l : List Nat) : Nat := l.foldl (fun a y => addC a (mulC y y)) 0
theorem sumC_snoc (l : List Nat) (y : Nat) : sumC (l ++ [y]) = addC (sumC l) y := by simp [sumC]
theorem sqC_snoc (l : List Nat) (y : Nat) : sqC (l ++ [y]) = addC (sqC l) (mulC y y) := by simp [sqC]

/-- A window as plain data: the values' words, the next slot, the two sums by the canonical operations. -/
structure St where
  vs : List Nat
  next : Nat
  s : Nat
  q : Nat

def St.step (size : Int) (st : St) (x : Nat) : St :=
  if (st.vs.length : Int) < size then ⟨st.vs ++ [x], st.next, addC st.s x, addC st.q (mulC x x)⟩
  else if st.next + 1 < st.vs.length then ⟨st.vs.set st.next x, st.next + 1, addC st.s (subC x (st.vs.getD st.next 0)), addC st.q (subC (mulC x x) (mulC (st.vs.getD st.next 0) (st.vs.getD st.next 0)))⟩
  else ⟨st.vs.set st.next x, 0, sumC (st.vs.set st.next x), sqC (st.vs.set st.next x)⟩

theorem step_grow {size : Int} {st : St} (h : (st.vs.length : Int) < size) (x : Nat) : st.step size x = ⟨st.vs ++ [x], st.next, addC st.s x, addC st.q (mulC x x)⟩ := by simp [St.step, h]
theorem step_mid {size : Int} {st : St} (h : ¬ (st.vs.length : Int) < size) (h2 : st.next + 1 < st.vs.length) (x : Nat) :
    st.step size x = ⟨st.vs.set st.next x, st.next + 1, addC st.s (subC x (st.vs.getD st.next 0)), addC st.q (subC (mulC x x) (mulC (st.vs.getD st.next 0) (st.vs.getD st.next 0)))⟩ := by simp only [St.step]; rw [if_neg h, if_pos h2]
theorem step_turn {size : Int} {st : St} (h : ¬ (st.vs.length : Int) < size) (h2 : ¬ st.next + 1 < st.vs.length) (x : Nat) :
    st.step size x = ⟨st.vs.set st.next x, 0, sumC (st.vs.set st.next x), sqC (st.vs.set st.next x)⟩ := by simp only [St.step]; rw [if_neg h, if_neg h2]

end Go.Proofs.Qxb6617322a
