/-
  THE PLAIN LAW OF FnAppendStringSplitsAtAnyCut: no Go in sight.
-/
import Derived.Test.Qxb6617886aOwn
import Derived.Lib.Strings
namespace Go.Proofs.Qxb6617886a

/-- The literal up to the cut, and from the cut on. -/
def litP (B : List Nat) (k : Nat) : List Nat := 34 :: body (B.take k)
def litQ (B : List Nat) (k : Nat) : List Nat := body (B.drop k) ++ [34]
theorem lit_cut (B : List Nat) (k : Nat) : lit B = litP B k ++ litQ B k := by
  have e : body B = body (B.take k) ++ body (B.drop k) := by rw [← body_append, List.take_append_drop]
  simp [lit, litP, litQ, e]
theorem lit_left (B : List Nat) (k : Nat) : lit (B.take k) = litP B k ++ [34] := by simp [lit, litP]
theorem lit_right (B : List Nat) (k : Nat) : lit (B.drop k) = 34 :: litQ B k := by simp [lit, litQ]
theorem litP_pos (B : List Nat) (k : Nat) : 1 ≤ (litP B k).length := by simp [litP]
theorem litQ_pos (B : List Nat) (k : Nat) : 1 ≤ (litQ B k).length := by simp [litQ]
theorem lit_length (B : List Nat) (k : Nat) : B.length + 2 ≤ (litP B k).length + (litQ B k).length ∧ (litP B k).length + (litQ B k).length ≤ 6 * B.length + 2 := by
  have h := body_length B
  have e : (lit B).length = (litP B k).length + (litQ B k).length := by rw [lit_cut B k, List.length_append]
  have e2 : (lit B).length = (body B).length + 2 := by simp [lit]
  omega

theorem getD_app_l (a b : List Nat) (i : Nat) (h : i < a.length) : (a ++ b).getD i 0 = a.getD i 0 := by
  simp [List.getD_eq_getElem?_getD, List.getElem?_append_left h]
theorem getD_app_r (a b : List Nat) (i : Nat) : (a ++ b).getD (a.length + i) 0 = b.getD i 0 := by
  simp [List.getD_eq_getElem?_getD, List.getElem?_append_right]

structure Split (bs P Q L8 L9 L10 : List Nat) : Prop where
  n8 : L8.length = bs.length + P.length + Q.length
  n9 : L9.length = P.length + 1
  n10 : L10.length = Q.length + 1
  one : ∀ i, i < bs.length → L8.getD i 0 = bs.getD i 0
  two : ∀ i, i < P.length → L8.getD (bs.length + i) 0 = L9.getD i 0
  three : ∀ i, i < Q.length → L8.getD (bs.length + P.length + i) 0 = L10.getD (1 + i) 0
  first : L8.getD bs.length 0 = 34
  last : L8.getD (bs.length + P.length + Q.length - 1) 0 = 34

theorem split_mk (bs B : List Nat) (k : Nat) : Split bs (litP B k) (litQ B k) (bs ++ lit B) (lit (B.take k)) (lit (B.drop k)) := by
  rw [lit_cut B k, lit_left, lit_right]
  have hP := litP_pos B k
  have hQ := litQ_pos B k
  have hP0 : (litP B k).getD 0 0 = 34 := rfl
  have hQl : (litQ B k).getD ((litQ B k).length - 1) 0 = 34 := by
    simp [litQ, List.getD_eq_getElem?_getD]
  generalize litP B k = P at *
  generalize litQ B k = Q at *
  refine ⟨by simp; omega, by simp, by simp, fun i hi => getD_app_l _ _ _ hi, fun i hi => ?_, fun i hi => ?_, ?_, ?_⟩
  · rw [getD_app_r, getD_app_l _ _ _ hi, getD_app_l _ _ _ hi]
  · rw [Nat.add_assoc, getD_app_r, getD_app_r, Nat.add_comm 1 i]; rfl
  · have := getD_app_r bs (P ++ Q) 0
    rw [Nat.add_zero] at this
    rw [this, getD_app_l _ _ _ (by omega), hP0]
  · have e : bs.length + P.length + Q.length - 1 = bs.length + (P.length + (Q.length - 1)) := by omega
    rw [e, getD_app_r, getD_app_r, hQl]

theorem bytes_cut (s : ByteArray) (k : Nat) : bytes (s.extract 0 k) = (bytes s).take k := by
  simp [bytes, List.map_take]
theorem bytes_rest (s : ByteArray) (k : Nat) : bytes (s.extract k s.size) = (bytes s).drop k := by
  unfold bytes
  rw [Go.Lib.extract_data, List.take_of_length_le (by simp), List.map_drop]

end Go.Proofs.Qxb6617886a
