/-
  A SLICE OF float64 THAT CAME IN, OPENED (the kit has the like for integers and strings).
-/
import Derived.WalkKit
import Derived.WalkLawsBesides
import Derived.ProofKit
import Derived.OpenShut
import Derived.Deep.Slices
namespace Go.Proofs.Qxb6617322a
open Go.ChangeShapes Go.WideShapes Go.ChangeAt Go.RowKit Go.Deep

/-- It is nil or empty; or it leads to a row whose first 'len' cells hold the words xs. -/
def IsRowF (w : World) (a : Option Addr) (len : Nat) (xs : List Nat) : Prop :=
  xs.length = len ∧ (0 < len → ∃ b off, a = some ⟨b, off, none⟩ ∧ b < w.heap.size ∧ ∀ i, i < len → w.cell? ⟨b, off + i, none⟩ = some (.float .f64 (xs.getD i 0)))

def bitsOf : Option Value → Nat
  | some (.float _ b) => b
  | _ => 0

theorem open_floats {H : Type} {enc : TypeId × Value → H} {P : Program} {w : World} {base : Nat} {spare : Nat → Bool} {held : Bool} {t e : TypeId} {fuel : Nat} {a : Option Addr} {len cap : Nat} {x : DataW H × List MemPlace}
    (ht : P.underlying t = some (.slice e)) (he : P.underlying e = some (.float .f64)) (hc : P.cellsOf e = 1)
    (h : DataW.trod enc P w base spare held fuel t (Value.slice a len cap).cells.toList = some x) : ∃ xs, IsRowF w a len xs := by
  rcases open_slice ht h with ⟨hcs, _⟩ | ⟨y, l, c, m, n, D, Pl, hcs, _, hl, _, hm, _, hall⟩
  · simp [Value.cells] at hcs
    obtain ⟨rfl, rfl, rfl⟩ := hcs
    exact ⟨[], rfl, fun h => absurd h (by omega)⟩
  · simp [Value.cells] at hcs
    obtain ⟨rfl, rfl, rfl⟩ := hcs
    have hlm : len ≤ m := by rw [hm]; split <;> omega
    have hcell : ∀ i, i < len → w.cell? (y.add i) = some (.float .f64 (bitsOf (w.cell? (y.add i)))) := by
      intro i hi
      obtain ⟨cs', hcs, hd⟩ := hall i (by omega)
      rw [hc, Nat.mul_one] at hcs
      cases n with
      | zero => simp [DataW.trod] at hd
      | succ n =>
        simp only [DataW.trod, he] at hd
        split at hd <;> simp_all
        obtain ⟨⟨rfl, _⟩, _⟩ := hd
        rw [cell_of_cells?_one hcs]
        rfl
    refine ⟨(List.range len).map fun i => bitsOf (w.cell? (y.add i)), by simp, fun hp => ?_⟩
    obtain ⟨b, off, spot⟩ := y
    have hspot : spot = none := by simpa [Addr.add] using World.cell?_spot (hcell 0 hp)
    subst hspot
    refine ⟨b, off, rfl, World.block_lt_of_cell? w _ (hcell 0 hp), fun j hj => ?_⟩
    have := hcell j hj
    rw [add_plain] at this
    rw [this]
    simp [List.getD_eq_getElem?_getD, hj, add_plain, bitsOf]

end Go.Proofs.Qxb6617322a
