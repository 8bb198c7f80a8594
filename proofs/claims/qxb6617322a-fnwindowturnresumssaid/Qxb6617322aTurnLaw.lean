/-
  THE PLAIN LAW OF FnWindowTurnResums: a full window at slot nx; the values that remain before its turn ends.
-/
import Derived.Test.Qxb6617322aKeepLaw
namespace Go.Proofs.Qxb6617322a
open Fl

def tAt (size : Int) (st0 : St) (xs : List Nat) (i : Nat) : St := (xs.take i).foldl (St.step size) st0
theorem tAt_zero (size : Int) (st0 : St) (xs : List Nat) : tAt size st0 xs 0 = st0 := rfl
theorem tAt_succ (size : Int) (st0 : St) (xs : List Nat) (i : Nat) (h : i < xs.length) : tAt size st0 xs (i + 1) = (tAt size st0 xs i).step size (xs.getD i 0) := by
  unfold tAt
  rw [List.take_succ_eq_append_getElem h, List.foldl_append]
  simp [List.getD_eq_getElem?_getD, List.getElem?_eq_getElem h]

structure TInv (vals : List Nat) (nx : Nat) (xs : List Nat) (i : Nat) (st : St) : Prop where
  len : st.vs.length = vals.length
  val : ∀ j, j < vals.length → st.vs.getD j 0 = if nx ≤ j ∧ j < nx + i then xs.getD (j - nx) 0 else vals.getD j 0
  next : i < xs.length → st.next = nx + i
  fin : i = xs.length → st.next = 0 ∧ st.s = sumC st.vs ∧ st.q = sqC st.vs

theorem tinv_at (size : Int) (vals : List Nat) (nx s q : Nat) (xs : List Nat) (hsz : size ≤ (vals.length : Int)) (hnx : nx < vals.length) (hxs : xs.length = vals.length - nx) :
    ∀ i, i ≤ xs.length → TInv vals nx xs i (tAt size ⟨vals, nx, s, q⟩ xs i)
  | 0, _ => by
    rw [tAt_zero]
    refine ⟨rfl, fun j hj => ?_, fun _ => rfl, fun h => by omega⟩
    rw [if_neg (by omega)]
  | i + 1, hi => by
    have ih := tinv_at size vals nx s q xs hsz hnx hxs i (by omega)
    rw [tAt_succ _ _ _ _ (by omega)]
    generalize tAt size ⟨vals, nx, s, q⟩ xs i = st at ih ⊢
    obtain ⟨hlen, hval, hnext, _⟩ := ih
    have hn := hnext (by omega)
    have hset : ∀ j, j < vals.length → (st.vs.set (nx + i) (xs.getD i 0)).getD j 0 = if nx ≤ j ∧ j < nx + (i + 1) then xs.getD (j - nx) 0 else vals.getD j 0 := by
      intro j hj
      by_cases hji : nx + i = j
      · subst hji
        rw [getD_set_eq _ _ _ (by omega), if_pos (by omega)]
        congr 1
        omega
      · rw [getD_set_ne' _ _ _ _ hji, hval j hj]
        by_cases h : nx ≤ j ∧ j < nx + i
        · rw [if_pos h, if_pos (by omega)]
        · rw [if_neg h, if_neg (by omega)]
    by_cases h2 : st.next + 1 < st.vs.length
    · rw [step_mid (by omega) h2, hn]
      refine ⟨by simpa using hlen, hset, fun _ => ?_, fun h => by omega⟩
      show nx + i + 1 = _
      omega
    · rw [step_turn (by omega) h2, hn]
      exact ⟨by simpa using hlen, hset, fun h => by omega, fun _ => ⟨rfl, rfl, rfl⟩⟩

end Go.Proofs.Qxb6617322a
