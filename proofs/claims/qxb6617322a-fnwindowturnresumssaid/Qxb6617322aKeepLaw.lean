/-
  THE PLAIN LAW OF FnWindowKeepsLastSize: what a window holds behind i additions.
-/
import Derived.Test.Qxb6617322aPlain
namespace Go.Proofs.Qxb6617322a
open Fl

/-- The left-to-right sum of c elements from a on. -/
def sumFrom (xs : List Nat) (a : Nat) : Nat → Nat
  | 0 => 0
  | c + 1 => addC (sumFrom xs a c) (xs.getD (a + c) 0)
def sqFrom (xs : List Nat) (a : Nat) : Nat → Nat
  | 0 => 0
  | c + 1 => addC (sqFrom xs a c) (mulC (xs.getD (a + c) 0) (xs.getD (a + c) 0))
/-- The sum carried on: each later value less the one that it displaced. -/
def adjS (xs : List Nat) (sz m s0 : Nat) : Nat → Nat
  | 0 => s0
  | c + 1 => addC (adjS xs sz m s0 c) (subC (xs.getD (m + c) 0) (xs.getD (m + c - sz) 0))
def adjQ (xs : List Nat) (sz m s0 : Nat) : Nat → Nat
  | 0 => s0
  | c + 1 => addC (adjQ xs sz m s0 c) (subC (mulC (xs.getD (m + c) 0) (xs.getD (m + c) 0)) (mulC (xs.getD (m + c - sz) 0) (xs.getD (m + c - sz) 0)))

def wantS (xs : List Nat) (sz i : Nat) : Nat := if i < sz then sumFrom xs 0 i else adjS xs sz (sz * (i / sz)) (sumFrom xs (sz * (i / sz) - sz) sz) (i - sz * (i / sz))
def wantQ (xs : List Nat) (sz i : Nat) : Nat := if i < sz then sqFrom xs 0 i else adjQ xs sz (sz * (i / sz)) (sqFrom xs (sz * (i / sz) - sz) sz) (i - sz * (i / sz))

theorem sumC_from (l : List Nat) : ∀ c, c ≤ l.length → sumC (l.take c) = sumFrom l 0 c
  | 0, _ => rfl
  | c + 1, h => by
    rw [List.take_succ_eq_append_getElem (by omega), sumC_snoc, sumC_from l c (by omega)]
    simp [sumFrom, List.getD_eq_getElem?_getD, List.getElem?_eq_getElem (show c < l.length by omega)]
theorem sqC_from (l : List Nat) : ∀ c, c ≤ l.length → sqC (l.take c) = sqFrom l 0 c
  | 0, _ => rfl
  | c + 1, h => by
    rw [List.take_succ_eq_append_getElem (by omega), sqC_snoc, sqC_from l c (by omega)]
    simp [sqFrom, List.getD_eq_getElem?_getD, List.getElem?_eq_getElem (show c < l.length by omega)]
theorem sumFrom_congr (l xs : List Nat) (a : Nat) : ∀ c, (∀ j, j < c → l.getD j 0 = xs.getD (a + j) 0) → sumFrom l 0 c = sumFrom xs a c
  | 0, _ => rfl
  | c + 1, h => by
    have e := h c (by omega)
    simp only [sumFrom, Nat.zero_add]
    rw [sumFrom_congr l xs a c (fun j hj => h j (by omega)), e]
theorem sqFrom_congr (l xs : List Nat) (a : Nat) : ∀ c, (∀ j, j < c → l.getD j 0 = xs.getD (a + j) 0) → sqFrom l 0 c = sqFrom xs a c
  | 0, _ => rfl
  | c + 1, h => by
    have e := h c (by omega)
    simp only [sqFrom, Nat.zero_add]
    rw [sqFrom_congr l xs a c (fun j hj => h j (by omega)), e]

/-- The state behind i additions to an empty window. -/
def stAt (sz : Nat) (xs : List Nat) (i : Nat) : St := (xs.take i).foldl (St.step (sz : Int)) ⟨[], 0, 0, 0⟩

theorem stAt_zero (sz : Nat) (xs : List Nat) : stAt sz xs 0 = ⟨[], 0, 0, 0⟩ := rfl
theorem stAt_succ (sz : Nat) (xs : List Nat) (i : Nat) (h : i < xs.length) : stAt sz xs (i + 1) = (stAt sz xs i).step (sz : Int) (xs.getD i 0) := by
  unfold stAt
  rw [List.take_succ_eq_append_getElem h, List.foldl_append]
  simp [List.getD_eq_getElem?_getD, List.getElem?_eq_getElem h]

structure Inv (sz : Nat) (xs : List Nat) (i : Nat) (st : St) : Prop where
  len : st.vs.length = min i sz
  val : ∀ j, j < min i sz → st.vs.getD j 0 = xs.getD (j + sz * ((i - 1 - j) / sz)) 0
  next : st.next = if i ≤ sz then 0 else (i - sz) % sz
  s : st.s = wantS xs sz i
  q : st.q = wantQ xs sz i

theorem getD_snoc_lt (l : List Nat) (x j : Nat) (h : j < l.length) : (l ++ [x]).getD j 0 = l.getD j 0 := by
  simp [List.getD_eq_getElem?_getD, List.getElem?_append_left h]
theorem getD_snoc_eq (l : List Nat) (x : Nat) : (l ++ [x]).getD l.length 0 = x := by
  simp [List.getD_eq_getElem?_getD]
theorem getD_set_eq (l : List Nat) (x j : Nat) (h : j < l.length) : (l.set j x).getD j 0 = x := by
  simp [List.getD_eq_getElem?_getD, h]
theorem getD_set_ne' (l : List Nat) (x j k : Nat) (h : j ≠ k) : (l.set j x).getD k 0 = l.getD k 0 := by
  simp [List.getD_eq_getElem?_getD, h]

theorem inv_at (sz : Nat) (xs : List Nat) (h1 : 1 ≤ sz) : ∀ i, i ≤ xs.length → Inv sz xs i (stAt sz xs i)
  | 0, _ => by
    rw [stAt_zero]
    refine ⟨by simp, fun j hj => by omega, by simp, ?_, ?_⟩
    · simp [wantS, show 0 < sz by omega, sumFrom]
    · simp [wantQ, show 0 < sz by omega, sqFrom]
  | i + 1, hi => by
    have ih := inv_at sz xs h1 i (by omega)
    rw [stAt_succ sz xs i (by omega)]
    generalize stAt sz xs i = st at ih ⊢
    obtain ⟨hlen, hval, hnext, hs, hq⟩ := ih
    by_cases hlt : i < sz
    · have hl : st.vs.length = i := by omega
      rw [step_grow (by omega)]
      refine ⟨by simp; omega, ?_, ?_, ?_, ?_⟩
      · intro j hj
        by_cases hji : j = i
        · subst hji
          have e : (j + 1 - 1 - j) / sz = 0 := by rw [show j + 1 - 1 - j = 0 by omega]; exact Nat.zero_div _
          rw [e]
          have := getD_snoc_eq st.vs (xs.getD j 0)
          rw [hl] at this
          simpa using this
        · rw [getD_snoc_lt _ _ _ (by omega), hval j (by omega)]
          rw [Nat.div_eq_of_lt (show i - 1 - j < sz by omega), Nat.div_eq_of_lt (show i + 1 - 1 - j < sz by omega)]
      · show st.next = _
        rw [hnext, if_pos (by omega), if_pos (by omega)]
      · show addC st.s (xs.getD i 0) = _
        rw [hs]
        unfold wantS
        rw [if_pos hlt]
        by_cases h2 : i + 1 < sz
        · rw [if_pos h2]; simp [sumFrom]
        · have e : sz = i + 1 := by omega
          rw [if_neg h2, e, Nat.div_self (by omega)]
          simp [adjS, sumFrom]
      · show addC st.q _ = _
        rw [hq]
        unfold wantQ
        rw [if_pos hlt]
        by_cases h2 : i + 1 < sz
        · rw [if_pos h2]; simp [sqFrom]
        · have e : sz = i + 1 := by omega
          rw [if_neg h2, e, Nat.div_self (by omega)]
          simp [adjQ, sqFrom]
    · -- the window is full
      have hl : st.vs.length = sz := by omega
      obtain ⟨d, r, hdr, hr⟩ : ∃ d r, i = sz * d + r ∧ r < sz := ⟨i / sz, i % sz, (Nat.div_add_mod i sz).symm, Nat.mod_lt _ (by omega)⟩
      have hd : 1 ≤ d := by
        rcases Nat.eq_zero_or_pos d with h0 | h0
        · rw [h0, Nat.mul_zero] at hdr; omega
        · exact h0
      have hdiv : i / sz = d := by rw [hdr, Nat.mul_add_div (by omega), Nat.div_eq_of_lt hr]; rfl
      have hmul : sz * (d - 1) + sz = sz * d := by
        rw [← Nat.mul_succ]; congr 1; omega
      have hnr : st.next = r := by
        rw [hnext]
        by_cases h2 : i ≤ sz
        · rw [if_pos h2]
          have : sz * 1 ≤ sz * d := Nat.mul_le_mul_left _ hd
          omega
        · rw [if_neg h2]
          have e : i - sz = sz * (d - 1) + r := by omega
          rw [e, Nat.mul_add_mod, Nat.mod_eq_of_lt hr]
      have hold : st.vs.getD r 0 = xs.getD (i - sz) 0 := by
        rw [hval r (by omega)]
        have e : (i - 1 - r) / sz = d - 1 := by
          have e1 : i - 1 - r = sz * (d - 1) + (sz - 1) := by omega
          rw [e1, Nat.mul_add_div (by omega), Nat.div_eq_of_lt (by omega)]; rfl
        rw [e]
        congr 1
        omega
      have hval' : ∀ j, j < sz → (st.vs.set r (xs.getD i 0)).getD j 0 = xs.getD (j + sz * ((i - j) / sz)) 0 := by
        intro j hj
        by_cases hjr : r = j
        · subst hjr
          rw [getD_set_eq _ _ _ (by omega)]
          have e : (i - r) / sz = d := by
            rw [show i - r = sz * d by omega, Nat.mul_div_cancel_left _ (by omega)]
          rw [e]
          congr 1
          omega
        · rw [getD_set_ne' _ _ _ _ hjr, hval j (by omega)]
          have e : (i - 1 - j) / sz = (i - j) / sz := by
            rcases Nat.lt_or_gt_of_ne hjr with h2 | h2
            · have e1 : i - 1 - j = sz * (d - 1) + (sz + r - 1 - j) := by omega
              have e2 : i - j = sz * (d - 1) + (sz + r - j) := by omega
              rw [e1, e2, Nat.mul_add_div (by omega), Nat.mul_add_div (by omega), Nat.div_eq_of_lt (by omega), Nat.div_eq_of_lt (by omega)]
            · have e1 : i - 1 - j = sz * d + (r - 1 - j) := by omega
              have e2 : i - j = sz * d + (r - j) := by omega
              rw [e1, e2, Nat.mul_add_div (by omega), Nat.mul_add_div (by omega), Nat.div_eq_of_lt (by omega), Nat.div_eq_of_lt (by omega)]
          rw [e]
      by_cases hr1 : r + 1 < sz
      · rw [step_mid (by omega) (by omega), hnr]
        have hdiv' : (i + 1) / sz = d := by rw [show i + 1 = sz * d + (r + 1) by omega, Nat.mul_add_div (by omega), Nat.div_eq_of_lt hr1]; rfl
        refine ⟨by simp; omega, ?_, ?_, ?_, ?_⟩
        · intro j hj
          show (st.vs.set r (xs.getD i 0)).getD j 0 = _
          rw [hval' j (by omega), show i + 1 - 1 - j = i - j by omega]
        · show r + 1 = _
          rw [if_neg (by omega)]
          have e : i + 1 - sz = sz * (d - 1) + (r + 1) := by omega
          rw [e, Nat.mul_add_mod, Nat.mod_eq_of_lt hr1]
        · show addC st.s (subC (xs.getD i 0) (st.vs.getD r 0)) = _
          rw [hs, hold]
          unfold wantS
          rw [if_neg hlt, if_neg (by omega), hdiv, hdiv']
          have e : i + 1 - sz * d = (i - sz * d) + 1 := by omega
          rw [e]
          show _ = addC _ (subC (xs.getD (sz * d + (i - sz * d)) 0) (xs.getD (sz * d + (i - sz * d) - sz) 0))
          rw [show sz * d + (i - sz * d) = i by omega]
        · show addC st.q (subC (mulC (xs.getD i 0) (xs.getD i 0)) (mulC (st.vs.getD r 0) (st.vs.getD r 0))) = _
          rw [hq, hold]
          unfold wantQ
          rw [if_neg hlt, if_neg (by omega), hdiv, hdiv']
          have e : i + 1 - sz * d = (i - sz * d) + 1 := by omega
          rw [e]
          show _ = addC _ (subC (mulC (xs.getD (sz * d + (i - sz * d)) 0) (xs.getD (sz * d + (i - sz * d)) 0)) (mulC (xs.getD (sz * d + (i - sz * d) - sz) 0) (xs.getD (sz * d + (i - sz * d) - sz) 0)))
          rw [show sz * d + (i - sz * d) = i by omega]
      · rw [step_turn (by omega) (by omega), hnr]
        have hsucc : sz * (d + 1) = sz * d + sz := Nat.mul_succ _ _
        have hdiv' : (i + 1) / sz = d + 1 := by rw [show i + 1 = sz * (d + 1) by omega, Nat.mul_div_cancel_left _ (by omega)]
        have hall : ∀ j, j < sz → (st.vs.set r (xs.getD i 0)).getD j 0 = xs.getD (sz * d + j) 0 := by
          intro j hj
          rw [hval' j hj]
          have e : (i - j) / sz = d := by rw [show i - j = sz * d + (r - j) by omega, Nat.mul_add_div (by omega), Nat.div_eq_of_lt (by omega)]; rfl
          rw [e]
          congr 1
          omega
        have hlen' : (st.vs.set r (xs.getD i 0)).length = sz := by simp [hl]
        refine ⟨by simp; omega, ?_, ?_, ?_, ?_⟩
        · intro j hj
          show (st.vs.set r (xs.getD i 0)).getD j 0 = _
          rw [hval' j (by omega), show i + 1 - 1 - j = i - j by omega]
        · show 0 = _
          rw [if_neg (by omega)]
          have e : i + 1 - sz = sz * d := by omega
          rw [e, Nat.mul_mod_right]
        · show sumC (st.vs.set r (xs.getD i 0)) = _
          unfold wantS
          rw [if_neg (by omega), hdiv', show i + 1 - sz * (d + 1) = 0 by omega]
          show _ = sumFrom xs _ sz
          have e := sumC_from (st.vs.set r (xs.getD i 0)) sz (by omega)
          rw [List.take_of_length_le (by omega)] at e
          rw [e, sumFrom_congr _ xs (sz * d) sz hall, show sz * (d + 1) - sz = sz * d by omega]
        · show sqC (st.vs.set r (xs.getD i 0)) = _
          unfold wantQ
          rw [if_neg (by omega), hdiv', show i + 1 - sz * (d + 1) = 0 by omega]
          show _ = sqFrom xs _ sz
          have e := sqC_from (st.vs.set r (xs.getD i 0)) sz (by omega)
          rw [List.take_of_length_le (by omega)] at e
          rw [e, sqFrom_congr _ xs (sz * d) sz hall, show sz * (d + 1) - sz = sz * d by omega]

end Go.Proofs.Qxb6617322a
