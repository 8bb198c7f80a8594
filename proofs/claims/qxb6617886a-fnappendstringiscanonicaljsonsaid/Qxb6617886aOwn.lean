/-
  ROWS OF BYTES THAT THE CALL OWNS; the literal that appendString writes, as plain lists. No walk.
-/
import Derived.WalkKit
import Derived.WalkLawsBesides
import Derived.WalkSpells
import Derived.Deep.AppendLies
namespace Go.Proofs.Qxb6617886a
open Go.RowKit

/-- Bytes as cells. -/
def row (xs : List Nat) : List Value := xs.map fun (c : Nat) => Value.int .u8 (c : Int)
theorem row_length (xs : List Nat) : (row xs).length = xs.length := by simp [row]
theorem row_append (xs ys : List Nat) : row (xs ++ ys) = row xs ++ row ys := by simp [row]
theorem row_get (xs : List Nat) (j : Nat) (h : j < xs.length) : (row xs)[j]? = some (.int .u8 ((xs.getD j 0 : Nat) : Int)) := by
  simp [row, List.getElem?_map, List.getD_eq_getElem?_getD, List.getElem?_eq_getElem h]
theorem row_one (xs : List Nat) : ∀ u ∈ row xs, u.oneCell' = true := by
  intro u hu
  obtain ⟨c, _, rfl⟩ := List.mem_map.1 hu
  rfl

/-- The value v owns the bytes xs; but for v0's row and new blocks the world is as w0 was; v lies in v0's row or in a new block. -/
structure Own (base : Nat) (w0 : World) (v0 : Value) (w : World) (v : Value) (xs : List Nat) : Prop where
  own : w.ownsRow base 5 1 v xs.length (row xs)
  grown : w0.grownBy w v0.ownBlock
  lies : ∀ g, v.ownBlock = some g → v0.ownBlock = some g ∨ w0.heap.size ≤ g

theorem Own.start {base : Nat} {w : World} {v : Value} {xs : List Nat} (h : w.ownsRow base 5 1 v xs.length (row xs)) : Own base w v w v xs :=
  ⟨h, ⟨rfl, rfl, rfl, Nat.le_refl _, fun _ _ _ => rfl⟩, fun _ hg => .inl hg⟩

theorem Own.append {base : Nat} {w0 W w1 : World} {v0 v : Value} {xs : List Nat} (h : Own base w0 v0 W v xs) (o : Obj) (n : Nat) (news : List Nat) (m g cap : Nat) (hm : news.length = m)
    (hown1 : w1.ownsRow base 5 1 (.slice (some ⟨g, 0, none⟩) (xs.length + m) cap) (xs.length + m) (row xs ++ row news))
    (hgrow : ((W.drewN n).alloc o).grownBy w1 v.ownBlock) (hat : v.ownBlock = some g ∨ g = W.heap.size + 1) :
    Own base w0 v0 w1 (.slice (some ⟨g, 0, none⟩) (xs.length + m) cap) (xs ++ news) := by
  have hz : ((W.drewN n).alloc o).heap.size = W.heap.size + 1 := by simp
  refine ⟨?_, ⟨?_, ?_, ?_, ?_, ?_⟩, ?_⟩
  · rw [row_append, List.length_append, hm]; exact hown1
  · rw [hgrow.os]; exact h.grown.os
  · rw [hgrow.tape]; exact h.grown.tape
  · rw [hgrow.output]; exact h.grown.output
  · have := hgrow.size; have := h.grown.size; omega
  · intro k hk hne
    have h1 := h.grown.size
    rw [hgrow.block k (by omega) ?_]
    · rw [show ((W.drewN n).alloc o).heap[k]? = (W.drewN n).heap[k]? from Below.heap_alloc _ _ _ (by show k < W.heap.size; omega)]
      exact h.grown.block k hk hne
    · intro e
      rcases h.lies k e.symm with h2 | h2
      · exact hne h2.symm
      · omega
  · intro k hk
    have e : g = k := by simpa [Value.ownBlock] using hk
    subst e
    rcases hat with h2 | h2
    · exact h.lies g h2
    · right; have := h.grown.size; omega

theorem Own.below {base C : Nat} {w0 w : World} {v0 v : Value} {xs : List Nat} (h : Own base w0 v0 w v xs) (hC : C ≤ w0.heap.size) (h0 : ∀ g, v0.ownBlock = some g → C ≤ g) : Below C w0 w :=
  ⟨h.grown.os, h.grown.tape, h.grown.output, h.grown.size, fun k hk => h.grown.block k (by omega) (fun e => by have := h0 k e.symm; omega)⟩

/-! ### the literal -/
def hexd (n : Nat) : Nat := if n < 10 then 48 + n else 87 + n
/-- One byte as appendString writes it. -/
def esc (c : Nat) : List Nat :=
  if c = 34 ∨ c = 92 then [92, c]
  else if c = 8 then [92, 98]
  else if c = 12 then [92, 102]
  else if c = 10 then [92, 110]
  else if c = 13 then [92, 114]
  else if c = 9 then [92, 116]
  else if c < 32 then [92, 117, 48, 48, hexd (c / 16), hexd (c % 16)]
  else [c]
def body (l : List Nat) : List Nat := l.flatMap esc
def lit (l : List Nat) : List Nat := 34 :: (body l ++ [34])
theorem esc_length (c : Nat) : 1 ≤ (esc c).length ∧ (esc c).length ≤ 6 := by
  unfold esc
  repeat (split; · simp)
  simp
theorem body_append (a b : List Nat) : body (a ++ b) = body a ++ body b := by simp [body]
theorem body_snoc (a : List Nat) (c : Nat) : body (a ++ [c]) = body a ++ esc c := by simp [body]
theorem body_length (l : List Nat) : l.length ≤ (body l).length ∧ (body l).length ≤ 6 * l.length := by
  induction l with
  | nil => simp [body]
  | cons c l ih =>
    have h := esc_length c
    have e : body (c :: l) = esc c ++ body l := by simp [body]
    rw [e, List.length_append, List.length_cons]
    omega

theorem body_step {xs l ys E : List Nat} {c : Nat} (h : ys = xs ++ 34 :: body l) (hE : esc c = E) : ys ++ E = xs ++ 34 :: body (l ++ [c]) := by
  rw [h, body_snoc, hE]; simp

/-- The bytes of a string. -/
def bytes (s : ByteArray) : List Nat := s.data.toList.map UInt8.toNat
theorem bytes_length (s : ByteArray) : (bytes s).length = s.size := by simp [bytes]
theorem bytes_take (s : ByteArray) (k : Nat) (h : k < s.size) : (bytes s).take (k + 1) = (bytes s).take k ++ [(s[k]'h).toNat] := by
  rw [List.take_succ_eq_append_getElem (by rw [bytes_length]; exact h)]
  congr 2
  simp [bytes]
  rfl

end Go.Proofs.Qxb6617886a
