/-
  THE WALKS OF FnUnreachableFixesFreshnessPoint (6), way by way.
-/
import Derived.Test.Qxb6617322aLook
import Derived.Test.Qxb6617322aWalkA
namespace Go.Proofs.Qxb6617322a
open Go.RowKit Fl
attribute [local go_sem] run_fadd run_fsub run_fmul run_store_float run_fmin

set_option maxRecDepth 100000 in
set_option maxHeartbeats 1000000 in
theorem unr6_c_1 (w : World) (fin : Bool) (ex mar fp grace late u at_ due : Nat) (hu : ((FloatKind.f64).format.order u fp == some .lt) = true) :
    Calls Try.prog 6 #[.bool false, .bool fin, .float .f64 ex, .float .f64 mar, .float .f64 fp, .float .f64 grace, .float .f64 late, .bool true, .float .f64 u, .float .f64 at_, .float .f64 due] w
      fun e w' => e = .returned (.bool true) ∧ Below w.heap.size w w' := by
  have hm : movedB true u fp = true := by simp [movedB, hu]
  have hpn : pastB false true at_ u = false := by simp [pastB]
  have hg : grantB false true at_ due u grace late = false := by simp [grantB, hpn]
  have hp : (true || pastB false true at_ u) = true := rfl
  go_enter Try.func6, Try.ntmps6
  go_wp2_with fail
  refine (new_any false fin ex mar fp grace late true w).mono ?_
  rintro e w1 ⟨rfl, rfl⟩
  go_wp2_with fail
  generalize hW2 : w.alloc (.cells (adCells false fin ex mar fp grace late true) 38) = W2
  have hD : Ad W2 w.heap.size false fin ex mar fp grace late true := by rw [← hW2]; exact heap_alloc_new w _
  have hZ : W2.heap.size = w.heap.size + 1 := by rw [← hW2]; simp
  have hB2 : Below w.heap.size w W2 := by rw [← hW2]; exact (Below.refl _ _).alloc (Nat.le_refl _) _
  clear hW2
  have hcall := unr_any W2 w.heap.size false fin ex mar fp grace late true u hD
  rw [hm] at hcall
  simp only [Bool.or_true, if_true] at hcall
  refine hcall.mono ?_
  rintro e w3 ⟨rfl, hA3, hO3⟩
  have hZ3 := hO3.size.trans hZ
  have hB3 := hB2.trans (hO3.below (Nat.le_refl _))
  clear hcall hD hZ hB2 hO3 hm
  go_wp2_with fail
  refine (look_gen w3 w.heap.size false true ex mar u grace late true at_ due hA3 false true hg hp).mono ?_
  rintro e w6 ⟨rfl, fp1, hA6, hS6, hN6, hO6⟩
  have hfp1 := (hN6 rfl).symm
  subst hfp1
  have q3 : sameB u u = true := sameB_of (Same.refl _)
  have hZ6 := hO6.size.trans hZ3
  have hB6 := hB3.trans (hO6.below (Nat.le_refl _))
  clear hS6 hN6 hO6 hA3 hZ3 hB3 hg hp
  have q1 : sameB ex ex = true := sameB_of (Same.refl _)
  have q2 : sameB mar mar = true := sameB_of (Same.refl _)
  obtain ⟨c7, c8, c9, c10, c12, c13, c14, c26⟩ := hA6.cell
  go_wp2_with fail
  refine (est_any w6 w.heap.size ex mar u c12 c13 c14).mono ?_
  rintro e w4 ⟨rfl, rfl⟩
  go_wp2_with fail
  refine (final_any _ w.heap.size true (((hA6.alloc _).alloc _).cell).2.2.2.2.2.2.2).mono ?_
  rintro e w4 ⟨rfl, rfl⟩
  go_wp2_with (first | (go_at_call 12; refine (zzSame_any _ _ _).mono ?_; rintro e w' ⟨rfl, rfl⟩))
  all_goals (go_ret; exact ⟨rfl, (hB6.alloc (by omega) _).alloc (by simp; omega) _⟩)

set_option maxRecDepth 100000 in
set_option maxHeartbeats 1000000 in
theorem unr6_c_2 (w : World) (fin : Bool) (ex mar fp grace late u at_ due : Nat) (hu : ((FloatKind.f64).format.order u fp == some .lt) = true) :
    Calls Try.prog 6 #[.bool true, .bool fin, .float .f64 ex, .float .f64 mar, .float .f64 fp, .float .f64 grace, .float .f64 late, .bool true, .float .f64 u, .float .f64 at_, .float .f64 due] w
      fun e w' => e = .returned (.bool true) ∧ Below w.heap.size w w' := by
  have hm : movedB true u fp = true := by simp [movedB, hu]
  have hpn : pastB true true at_ u = false := by simp [pastB]
  have hg : grantB true true at_ due u grace late = false := by simp [grantB, hpn]
  have hp : (true || pastB true true at_ u) = true := rfl
  go_enter Try.func6, Try.ntmps6
  go_wp2_with fail
  refine (new_any true fin ex mar fp grace late true w).mono ?_
  rintro e w1 ⟨rfl, rfl⟩
  go_wp2_with fail
  generalize hW2 : w.alloc (.cells (adCells true fin ex mar fp grace late true) 38) = W2
  have hD : Ad W2 w.heap.size true fin ex mar fp grace late true := by rw [← hW2]; exact heap_alloc_new w _
  have hZ : W2.heap.size = w.heap.size + 1 := by rw [← hW2]; simp
  have hB2 : Below w.heap.size w W2 := by rw [← hW2]; exact (Below.refl _ _).alloc (Nat.le_refl _) _
  clear hW2
  have hcall := unr_any W2 w.heap.size true fin ex mar fp grace late true u hD
  rw [hm] at hcall
  simp only [Bool.or_true, if_true] at hcall
  refine hcall.mono ?_
  rintro e w3 ⟨rfl, hA3, hO3⟩
  have hZ3 := hO3.size.trans hZ
  have hB3 := hB2.trans (hO3.below (Nat.le_refl _))
  clear hcall hD hZ hB2 hO3 hm
  go_wp2_with fail
  refine (look_gen w3 w.heap.size true true ex mar u grace late true at_ due hA3 false true hg hp).mono ?_
  rintro e w6 ⟨rfl, fp1, hA6, hS6, hN6, hO6⟩
  have hfp1 := (hN6 rfl).symm
  subst hfp1
  have q3 : sameB u u = true := sameB_of (Same.refl _)
  have hZ6 := hO6.size.trans hZ3
  have hB6 := hB3.trans (hO6.below (Nat.le_refl _))
  clear hS6 hN6 hO6 hA3 hZ3 hB3 hg hp
  have q1 : sameB ex ex = true := sameB_of (Same.refl _)
  have q2 : sameB mar mar = true := sameB_of (Same.refl _)
  obtain ⟨c7, c8, c9, c10, c12, c13, c14, c26⟩ := hA6.cell
  go_wp2_with fail
  refine (est_any w6 w.heap.size ex mar u c12 c13 c14).mono ?_
  rintro e w4 ⟨rfl, rfl⟩
  go_wp2_with fail
  refine (final_any _ w.heap.size true (((hA6.alloc _).alloc _).cell).2.2.2.2.2.2.2).mono ?_
  rintro e w4 ⟨rfl, rfl⟩
  go_wp2_with (first | (go_at_call 12; refine (zzSame_any _ _ _).mono ?_; rintro e w' ⟨rfl, rfl⟩))
  all_goals (go_ret; exact ⟨rfl, (hB6.alloc (by omega) _).alloc (by simp; omega) _⟩)

end Go.Proofs.Qxb6617322a
