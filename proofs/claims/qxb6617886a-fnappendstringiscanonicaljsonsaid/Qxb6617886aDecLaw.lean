/-
  THE PLAIN FACTS FOR THE DECODER: where each byte's escape lies in the literal. No Go in sight.
-/
import Derived.Test.Qxb6617886aSplitLaw
namespace Go.Proofs.Qxb6617886a

/-- Where the k-th byte's escape begins. -/
def place (B : List Nat) (k : Nat) : Nat := 1 + (body (B.take k)).length
theorem place_zero (B : List Nat) : place B 0 = 1 := by simp [place, body]
theorem place_all (B : List Nat) : place B B.length = 1 + (body B).length := by simp [place]
theorem body_split (B : List Nat) (k : Nat) (h : k < B.length) : body B = body (B.take k) ++ esc (B.getD k 0) ++ body (B.drop (k + 1)) := by
  have e : B = B.take k ++ [B.getD k 0] ++ B.drop (k + 1) := by
    rw [List.append_assoc, List.getD_eq_getElem?_getD, List.getElem?_eq_getElem h]
    simp
  refine (congrArg body e).trans ?_
  rw [body_append, body_snoc]
theorem place_succ (B : List Nat) (k : Nat) (h : k < B.length) : place B (k + 1) = place B k + (esc (B.getD k 0)).length := by
  unfold place
  rw [List.take_succ_eq_append_getElem h, body_snoc, List.length_append, List.getD_eq_getElem?_getD, List.getElem?_eq_getElem h, Option.getD_some]
  omega
theorem place_le (B : List Nat) (k : Nat) (h : k < B.length) : place B k + (esc (B.getD k 0)).length ≤ 1 + (body B).length := by
  have e := congrArg List.length (body_split B k h)
  simp only [List.length_append] at e
  unfold place
  omega
theorem lit_place (B : List Nat) (k : Nat) (h : k < B.length) (r : Nat) (hr : r < (esc (B.getD k 0)).length) : (lit B).getD (place B k + r) 0 = (esc (B.getD k 0)).getD r 0 := by
  have e : lit B = ([34] ++ body (B.take k)) ++ (esc (B.getD k 0) ++ (body (B.drop (k + 1)) ++ [34])) := by
    unfold lit
    rw [body_split B k h]
    simp
  have hl : ([34] ++ body (B.take k)).length = place B k := by simp [place]; omega
  rw [e, ← hl, getD_app_r, getD_app_l _ _ _ hr]
theorem lit_first (B : List Nat) : (lit B).getD 0 0 = 34 := rfl
theorem lit_last (B : List Nat) : (lit B).getD ((body B).length + 1) 0 = 34 := by
  have e : lit B = (34 :: body B) ++ [34] := by simp [lit]
  have hl : (34 :: body B).length = (body B).length + 1 := by simp
  have := getD_app_r (34 :: body B) [34] 0
  rw [hl, Nat.add_zero] at this
  rw [e, this]; rfl
theorem take_snoc (B : List Nat) (k : Nat) (h : k < B.length) : B.take (k + 1) = B.take k ++ [B.getD k 0] := by
  rw [List.take_succ_eq_append_getElem h, List.getD_eq_getElem?_getD, List.getElem?_eq_getElem h]; rfl

theorem hexd_dec (p : Nat) (h : p < 16) : (p < 10 ∧ hexd p = 48 + p) ∨ (10 ≤ p ∧ hexd p = 87 + p) := by
  unfold hexd
  split
  · exact .inl ⟨by assumption, rfl⟩
  · exact .inr ⟨by omega, rfl⟩

/-- The value behind r digits of the u-escape, and the r-th digit's worth. -/
def hv (c r : Nat) : Nat := if r < 3 then 0 else if r = 3 then c / 16 else c
def dg (c r : Nat) : Nat := if r = 2 then c / 16 else if r = 3 then c % 16 else 0
theorem hv_zero (c : Nat) : hv c 0 = 0 := rfl
theorem hv_four (c : Nat) : hv c 4 = c := rfl
theorem hv_le (c r : Nat) (hc : c < 32) : hv c r ≤ 31 := by unfold hv; split <;> (try split) <;> omega
theorem hv_succ (c r : Nat) (hr : r < 4) : hv c (r + 1) = hv c r * 16 + dg c r := by
  have : r = 0 ∨ r = 1 ∨ r = 2 ∨ r = 3 := by omega
  rcases this with rfl | rfl | rfl | rfl <;> simp [hv, dg] <;> omega
theorem dg_lt (c r : Nat) (hc : c < 32) : dg c r < 16 := by unfold dg; split <;> (try split) <;> omega
theorem uesc_dg (c r : Nat) (hr : r < 4) : [92, 117, 48, 48, hexd (c / 16), hexd (c % 16)].getD (2 + r) 0 = hexd (dg c r) := by
  have : r = 0 ∨ r = 1 ∨ r = 2 ∨ r = 3 := by omega
  rcases this with rfl | rfl | rfl | rfl <;> rfl

end Go.Proofs.Qxb6617886a
