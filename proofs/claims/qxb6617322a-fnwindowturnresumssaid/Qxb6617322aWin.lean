/-
  THE WINDOW IN MEMORY: one block of five cells; the row of values that the call owns. Facts on worlds: no walk.
-/
import Derived.WalkKit
import Derived.WalkLawsBesides
import Derived.WalkSpells
import Derived.Deep.AppendLies
import Derived.Test.Qxb6617322aFloat
namespace Go.Proofs.Qxb6617322a
open Go.RowKit Fl

/-- Block B holds a window: its size, its slice of values, its next slot, its two sums. -/
def Win (w : World) (B : Nat) (size : Int) (v : Value) (next : Int) (s q : Nat) : Prop :=
  w.heap[B]? = some (.cells #[.int .i64 size, v, .int .i64 next, .float .f64 s, .float .f64 q] 36 (0, 0))

section
variable {w : World} {B : Nat} {size next : Int} {v : Value} {s q : Nat}

theorem Win.lt (h : Win w B size v next s q) : B < w.heap.size := (Array.getElem?_eq_some_iff.1 h).1

theorem Win.cell (h : Win w B size v next s q) : w.cell? ⟨B, 0, none⟩ = some (.int .i64 size) ∧ w.cell? ⟨B, 1, none⟩ = some v ∧ w.cell? ⟨B, 2, none⟩ = some (.int .i64 next) ∧
    w.cell? ⟨B, 3, none⟩ = some (.float .f64 s) ∧ w.cell? ⟨B, 4, none⟩ = some (.float .f64 q) := by
  unfold Win at h
  simp [World.cell?, h]

theorem Win.frozen (h : Win w B size v next s q) : w.frozen? ⟨B, 0, none⟩ = false ∧ w.frozen? ⟨B, 1, none⟩ = false ∧ w.frozen? ⟨B, 2, none⟩ = false ∧ w.frozen? ⟨B, 3, none⟩ = false ∧ w.frozen? ⟨B, 4, none⟩ = false := by
  unfold Win at h
  simp [World.frozen?, h]

theorem Win.block {w' : World} (h : Win w B size v next s q) (e : w'.heap[B]? = w.heap[B]?) : Win w' B size v next s q := by unfold Win; rw [e]; exact h

theorem Win.drewN (h : Win w B size v next s q) (n : Nat) : Win (w.drewN n) B size v next s q := h

theorem Win.set1 (h : Win w B size v next s q) (u : Value) : Win (w.setCell ⟨B, 1, none⟩ u) B size u next s q := by
  unfold Win at *; rw [heap_setCell_same w B 1 _ 36 u h]; rfl
theorem Win.set2 (h : Win w B size v next s q) (u : Int) : Win (w.setCell ⟨B, 2, none⟩ (.int .i64 u)) B size v u s q := by
  unfold Win at *; rw [heap_setCell_same w B 2 _ 36 _ h]; rfl
theorem Win.set3 (h : Win w B size v next s q) (u : Nat) : Win (w.setCell ⟨B, 3, none⟩ (.float .f64 u)) B size v next u q := by
  unfold Win at *; rw [heap_setCell_same w B 3 _ 36 _ h]; rfl
theorem Win.set4 (h : Win w B size v next s q) (u : Nat) : Win (w.setCell ⟨B, 4, none⟩ (.float .f64 u)) B size v next s u := by
  unfold Win at *; rw [heap_setCell_same w B 4 _ 36 _ h]; rfl
theorem Win.drew (h : Win w B size v next s q) : Win w.drew B size v next s q := h
theorem Win.other (h : Win w B size v next s q) {p : Addr} (u : Value) (hp : B ≠ p.block) : Win (w.setCell p u) B size v next s q := by
  unfold Win at *; rw [heap_setCell_other w p B u hp]; exact h
end

/-- A store into a block that is not the row's leaves what is owned. -/
theorem own_set {w : World} {base : Nat} {e : TypeId} {size : Nat} {v : Value} {n : Nat} {xs : List Value} (h : w.ownsRow base e size v n xs) {p : Addr} (hp : v.ownBlock ≠ some p.block) (u : Value) :
    (w.setCell p u).ownsRow base e size v n xs :=
  h.kept (row := some p.block) ⟨rfl, rfl, rfl, by simp, fun k _ hk => heap_setCell_other w p k u (fun e => hk (by simp [e]))⟩ (.inr hp)

theorem own_drewN {w : World} {base : Nat} {e : TypeId} {size : Nat} {v : Value} {n : Nat} {xs : List Value} (h : w.ownsRow base e size v n xs) (m : Nat) : (w.drewN m).ownsRow base e size v n xs := h

theorem own_drew {w : World} {base : Nat} {e : TypeId} {size : Nat} {v : Value} {n : Nat} {xs : List Value} (h : w.ownsRow base e size v n xs) : w.drew.ownsRow base e size v n xs := h

/-- A store into the row itself. -/
theorem own_put {w : World} {base g n cap : Nat} {xs : List Nat} (h : w.ownsRow base 22 1 (.slice (some ⟨g, 0, none⟩) n cap) n (xs.map (Value.float .f64))) (j x : Nat) :
    (w.setCell ⟨g, j, none⟩ (.float .f64 x)).ownsRow base 22 1 (.slice (some ⟨g, 0, none⟩) n cap) n ((xs.set j x).map (Value.float .f64)) := by
  rw [List.map_set]
  exact (h.stored j _).1

end Go.Proofs.Qxb6617322a
