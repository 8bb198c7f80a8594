/-
  THE ADAPTIVE DETECTOR IN MEMORY (one block of 27 cells), AND THE WALKS OF ITS SMALL FUNCTIONS: ZZNewAdaptive (7), Estimate (9), ZZFinal (10), zzHeld (11).
-/
import Derived.Test.Qxb6617322aChecked
import Derived.WalkKit
import Derived.WalkLawsBesides
import Derived.WalkSpells
import Derived.Test.Qxb6617322aHold
namespace Go.Proofs.Qxb6617322a
open Go.RowKit Fl
attribute [local go_sem] run_fadd run_fsub run_fmul run_store_float run_fmin

def adCells (acc fin : Bool) (ex mar fp grace late : Nat) (unr : Bool) : Array Value :=
  #[.float .f64 0, .int .i64 0, .float .f64 0, .float .f64 0, .float .f64 0, .float .f64 0, .float .f64 0, .float .f64 late, .float .f64 grace, .bool unr,
    .bool acc, .int .u64 0, .float .f64 ex, .float .f64 mar, .float .f64 fp, .int .u64 0, .int .u64 0, .int .u64 0, .float .f64 0,
    .int .i64 0, .slice none 0 0, .int .i64 0, .float .f64 0, .float .f64 0, .float .f64 0, .float .f64 0, .bool fin]

/-- Block B holds a detector. -/
def Ad (w : World) (B : Nat) (acc fin : Bool) (ex mar fp grace late : Nat) (unr : Bool) : Prop :=
  w.heap[B]? = some (.cells (adCells acc fin ex mar fp grace late unr) 38 (0, 0))

section
variable {w : World} {B : Nat} {acc fin : Bool} {ex mar fp grace late : Nat} {unr : Bool}
theorem Ad.lt (h : Ad w B acc fin ex mar fp grace late unr) : B < w.heap.size := (Array.getElem?_eq_some_iff.1 h).1
theorem Ad.cell (h : Ad w B acc fin ex mar fp grace late unr) : w.cell? ⟨B, 7, none⟩ = some (.float .f64 late) ∧ w.cell? ⟨B, 8, none⟩ = some (.float .f64 grace) ∧ w.cell? ⟨B, 9, none⟩ = some (.bool unr) ∧
    w.cell? ⟨B, 10, none⟩ = some (.bool acc) ∧ w.cell? ⟨B, 12, none⟩ = some (.float .f64 ex) ∧ w.cell? ⟨B, 13, none⟩ = some (.float .f64 mar) ∧ w.cell? ⟨B, 14, none⟩ = some (.float .f64 fp) ∧ w.cell? ⟨B, 26, none⟩ = some (.bool fin) := by
  unfold Ad at h
  simp [World.cell?, h, adCells]
theorem Ad.frozen (h : Ad w B acc fin ex mar fp grace late unr) (j : Nat) : w.frozen? ⟨B, j, none⟩ = false := by
  unfold Ad at h
  simp [World.frozen?, h]
theorem Ad.block {w' : World} (h : Ad w B acc fin ex mar fp grace late unr) (e : w'.heap[B]? = w.heap[B]?) : Ad w' B acc fin ex mar fp grace late unr := by unfold Ad; rw [e]; exact h
theorem Ad.drewN (h : Ad w B acc fin ex mar fp grace late unr) (n : Nat) : Ad (w.drewN n) B acc fin ex mar fp grace late unr := h
theorem Ad.setFp (h : Ad w B acc fin ex mar fp grace late unr) (u : Nat) : Ad (w.setCell ⟨B, 14, none⟩ (.float .f64 u)) B acc fin ex mar u grace late unr := by
  unfold Ad at *; rw [heap_setCell_same w B 14 _ 38 _ h]; rfl
theorem Ad.setFin (h : Ad w B acc fin ex mar fp grace late unr) (u : Bool) : Ad (w.setCell ⟨B, 26, none⟩ (.bool u)) B acc u ex mar fp grace late unr := by
  unfold Ad at *; rw [heap_setCell_same w B 26 _ 38 _ h]; rfl
theorem Ad.alloc (h : Ad w B acc fin ex mar fp grace late unr) (o : Obj) : Ad (w.alloc o) B acc fin ex mar fp grace late unr := h.block (Below.heap_alloc _ _ _ h.lt)
end

set_option maxRecDepth 100000 in
theorem new_any (acc fin : Bool) (ex mar fp grace late : Nat) (unr : Bool) (w : World) :
    Calls Try.prog 7 #[.bool acc, .bool fin, .float .f64 ex, .float .f64 mar, .float .f64 fp, .float .f64 grace, .float .f64 late, .bool unr] w fun e w' =>
      e = .returned (.pointer (some ⟨w.heap.size, 0, none⟩)) ∧ w' = w.alloc (.cells (adCells acc fin ex mar fp grace late unr) 38) := by
  go_enter Try.func7, Try.ntmps7
  go_wp2
  go_ret
  exact ⟨rfl, rfl⟩

theorem est_any (w : World) (B : Nat) (ex mar fp : Nat) (h12 : w.cell? ⟨B, 12, none⟩ = some (.float .f64 ex)) (h13 : w.cell? ⟨B, 13, none⟩ = some (.float .f64 mar)) (h14 : w.cell? ⟨B, 14, none⟩ = some (.float .f64 fp)) :
    Calls Try.prog 9 #[.pointer (some ⟨B, 10, none⟩)] w fun e w' => e = .returned (.agg #[.float .f64 ex, .float .f64 mar, .float .f64 fp]) ∧ w' = w.alloc (.cells #[.float .f64 ex, .float .f64 mar, .float .f64 fp] 27) := by
  have hB : B < w.heap.size := World.block_lt_of_cell? w _ h12
  go_enter Try.func9, Try.ntmps9
  go_wp2
  exact bodyPost_ret (v := .agg #[.float .f64 ex, .float .f64 mar, .float .f64 fp]) (by simp [results, Try.results9, go_sem]) rfl ⟨rfl, rfl⟩

theorem final_any (w : World) (B : Nat) (fin : Bool) (h26 : w.cell? ⟨B, 26, none⟩ = some (.bool fin)) :
    Calls Try.prog 10 #[.pointer (some ⟨B, 0, none⟩)] w fun e w' => e = .returned (.bool fin) ∧ w' = w := by
  go_enter Try.func10, Try.ntmps10
  go_wp2
  go_ret
  exact ⟨rfl, rfl⟩

theorem held_any (at_ due fp : Nat) (w : World) :
    Calls Try.prog 11 #[.float .f64 at_, .float .f64 due, .float .f64 fp] w fun e w' => ∃ r, e = .returned (.float .f64 r) ∧ (∃ n, w' = w.drewN n) ∧ Same r (subC at_ (earl due fp)) := by
  unfold earl
  cases h : ((FloatKind.f64).format.order fp due == some .lt)
  · go_enter Try.func11, Try.ntmps11
    go_wp2
    go_ret
    exact ⟨_, rfl, ⟨_, rfl⟩, fsub_same _ (Same.refl _) (Same.refl _)⟩
  · go_enter Try.func11, Try.ntmps11
    go_wp2
    go_ret
    exact ⟨_, rfl, ⟨_, rfl⟩, fsub_same _ (Same.refl _) (Same.refl _)⟩

end Go.Proofs.Qxb6617322a
