/-
  THE WALKS OF FnLookOnlyFirstPastCounts (3): a look that counts
-/
import Derived.Test.Qxb6617322aLook
import Derived.Test.Qxb6617322aWalkA
namespace Go.Proofs.Qxb6617322a
open Go.RowKit Fl
attribute [local go_sem] run_fadd run_fsub run_fmul run_store_float run_fmin

set_option maxRecDepth 100000 in
set_option maxHeartbeats 1000000 in
theorem look3_grant (w : World) (ex mar fp grace late at1 due1 at2 due2 : Nat) (ho : ((FloatKind.f64).format.order at1 fp == some .gt) = true) (hz : ((FloatKind.f64).format.order grace 0 == some .eq) = false) (hl : lateB at1 due1 fp late = true) :
    Calls Try.prog 3 #[.bool true, .bool false, .float .f64 ex, .float .f64 mar, .float .f64 fp, .float .f64 grace, .float .f64 late, .float .f64 at1, .float .f64 due1, .float .f64 at2, .float .f64 due2] w
      fun e w' => e = .returned (.bool true) ∧ Below w.heap.size w w' := by
  have hg1 : grantB true false at1 due1 fp grace late = true := by simp [grantB, pastB, ho, bne, hz, hl]
  have hp1 : (false || pastB true false at1 fp) = true := by simp [pastB, ho]
  go_enter Try.func3, Try.ntmps3
  go_wp2_with fail
  refine (new_any true false ex mar fp grace late false w).mono ?_
  rintro e w1 ⟨rfl, rfl⟩
  go_wp2_with fail
  refine (new_any true false ex mar fp grace late false _).mono ?_
  rintro e w1 ⟨rfl, rfl⟩
  go_wp2_with fail
  generalize hW2 : (w.alloc (.cells (adCells true false ex mar fp grace late false) 38)).alloc (.cells (adCells true false ex mar fp grace late false) 38) = W2
  have hD : Ad W2 w.heap.size true false ex mar fp grace late false := by rw [← hW2]; exact Ad.alloc (heap_alloc_new w _) _
  have hF : Ad W2 (w.heap.size + 1) true false ex mar fp grace late false := by
    rw [← hW2]; have := heap_alloc_new (w.alloc (.cells (adCells true false ex mar fp grace late false) 38)) (.cells (adCells true false ex mar fp grace late false) 38); simpa [Ad] using this
  have hZ : W2.heap.size = w.heap.size + 2 := by rw [← hW2]; simp
  have hB2 : Below w.heap.size w W2 := by rw [← hW2]; exact ((Below.refl _ _).alloc (Nat.le_refl _) _).alloc (by simp) _
  clear hW2
  refine (look_gen W2 w.heap.size true false ex mar fp grace late false at1 due1 hD true true hg1 hp1).mono ?_
  rintro e w3 ⟨rfl, fp1, hA3, hS3, hN3, hO3⟩
  have HS3 : Hid (Same fp1 (addC at1 grace)) := hS3 rfl
  clear hS3 hN3
  have hF3 := hF.block (hO3.block (w.heap.size + 1) (by omega))
  have hZ3 := hO3.size.trans hZ
  have hB3 := hB2.trans (hO3.below (Nat.le_refl _))
  clear hD hF hZ hB2 hO3
  obtain ⟨c7, c8, c9, c10, c12, c13, c14, c26⟩ := hA3.cell
  go_wp2_with fail
  refine (est_any w3 w.heap.size ex mar fp1 c12 c13 c14).mono ?_
  rintro e w4 ⟨rfl, rfl⟩
  go_wp2_with fail
  refine (final_any _ w.heap.size true (((hA3.alloc _).alloc _).cell).2.2.2.2.2.2.2).mono ?_
  rintro e w4 ⟨rfl, rfl⟩
  go_wp2_with fail
  clear c7 c8 c9 c10 c12 c13 c14 c26
  generalize hW5 : (w3.alloc (.cells #[.float .f64 ex, .float .f64 mar, .float .f64 fp1] 27)).alloc (.cells #[.float .f64 ex, .float .f64 mar, .float .f64 fp1] 27) = W5
  have hA5 : Ad W5 w.heap.size true true ex mar fp1 grace late false := by rw [← hW5]; exact (hA3.alloc _).alloc _
  have hF5 : Ad W5 (w.heap.size + 1) true false ex mar fp grace late false := by rw [← hW5]; exact (hF3.alloc _).alloc _
  have hZ5 : W5.heap.size = w.heap.size + 4 := by rw [← hW5]; simp [hZ3]
  have hB5 : Below w.heap.size w W5 := by rw [← hW5]; exact (hB3.alloc (by omega) _).alloc (by simp; omega) _
  have hE5 : W5.heap[w.heap.size + 2 + 1]? = some (.cells #[.float .f64 ex, .float .f64 mar, .float .f64 fp1] 27 (0, 0)) := by
    rw [← hW5]; have := heap_alloc_new (w3.alloc (.cells #[.float .f64 ex, .float .f64 mar, .float .f64 fp1] 27)) (.cells #[.float .f64 ex, .float .f64 mar, .float .f64 fp1] 27); simpa [hZ3] using this
  clear hW5 hA3 hF3 hZ3 hB3
  refine (look_gen W5 w.heap.size true true ex mar fp1 grace late false at2 due2 hA5 false true (by simp [grantB, pastB]) rfl).mono ?_
  rintro e w6 ⟨rfl, fp2, hA6, hS6, hN6, hO6⟩
  have hfp2 := (hN6 rfl).symm
  subst hfp2
  clear hS6 hN6
  have hF6 := hF5.block (hO6.block (w.heap.size + 1) (by omega))
  have hZ6 := hO6.size.trans hZ5
  have hB6 := hB5.trans (hO6.below (Nat.le_refl _))
  have hE6 := (hO6.block (w.heap.size + 2 + 1) (by omega)).trans hE5
  have e0 : w6.cell? ⟨w.heap.size + 2 + 1, 0, none⟩ = some (.float .f64 ex) := by simp [World.cell?, hE6]
  have e1 : w6.cell? ⟨w.heap.size + 2 + 1, 1, none⟩ = some (.float .f64 mar) := by simp [World.cell?, hE6]
  have e2 : w6.cell? ⟨w.heap.size + 2 + 1, 2, none⟩ = some (.float .f64 fp1) := by simp [World.cell?, hE6]
  clear hA5 hF5 hZ5 hB5 hO6 hE5 hE6
  obtain ⟨c7, c8, c9, c10, c12, c13, c14, c26⟩ := hA6.cell
  go_wp2_with fail
  refine (est_any w6 w.heap.size ex mar fp1 c12 c13 c14).mono ?_
  rintro e w4 ⟨rfl, rfl⟩
  go_wp2_with fail
  refine (final_any _ w.heap.size true (((hA6.alloc _).alloc _).cell).2.2.2.2.2.2.2).mono ?_
  rintro e w4 ⟨rfl, rfl⟩
  have q1 : sameB ex ex = true := sameB_of (Same.refl _)
  have q2 : sameB mar mar = true := sameB_of (Same.refl _)
  have q3 : ∀ W : World, sameB fp1 (fop .add W at1 grace) = true := fun W => sameB_of (HS3.out.trans (fadd_same W (Same.refl _) (Same.refl _)).symm)
  have hzn : ((FloatKind.f64).format.order grace 0 != some .eq) = true := by simp only [bne, hz]; rfl
  have hrule : ∀ r, Same r (subC at1 (earl due1 fp)) → ((FloatKind.f64).format.order r late == some .gt) = true := fun r hr => by rw [order_same hr]; exact hl
  clear hg1 hp1 hl
  go_wp2_with (first | (go_at_call 12; refine (zzSame_any _ _ _).mono ?_; rintro e w' ⟨rfl, rfl⟩) | (go_at_call 11; refine (held_any _ _ _ _).mono ?_; rintro e w' ⟨r, rfl, ⟨n, rfl⟩, hr⟩; have hr' := hrule r hr))
  go_ret
  exact ⟨rfl, below_drewN ((hB6.alloc (by omega) _).alloc (by simp; omega) _) _⟩

set_option maxRecDepth 100000 in
set_option maxHeartbeats 1000000 in
theorem look3_late (w : World) (ex mar fp grace late at1 due1 at2 due2 : Nat) (ho : ((FloatKind.f64).format.order at1 fp == some .gt) = true) (hz : ((FloatKind.f64).format.order grace 0 == some .eq) = false) (hl : lateB at1 due1 fp late = false) :
    Calls Try.prog 3 #[.bool true, .bool false, .float .f64 ex, .float .f64 mar, .float .f64 fp, .float .f64 grace, .float .f64 late, .float .f64 at1, .float .f64 due1, .float .f64 at2, .float .f64 due2] w
      fun e w' => e = .returned (.bool true) ∧ Below w.heap.size w w' := by
  have hg1 : grantB true false at1 due1 fp grace late = false := by simp [grantB, hl]
  have hp1 : (false || pastB true false at1 fp) = true := by simp [pastB, ho]
  go_enter Try.func3, Try.ntmps3
  go_wp2_with fail
  refine (new_any true false ex mar fp grace late false w).mono ?_
  rintro e w1 ⟨rfl, rfl⟩
  go_wp2_with fail
  refine (new_any true false ex mar fp grace late false _).mono ?_
  rintro e w1 ⟨rfl, rfl⟩
  go_wp2_with fail
  generalize hW2 : (w.alloc (.cells (adCells true false ex mar fp grace late false) 38)).alloc (.cells (adCells true false ex mar fp grace late false) 38) = W2
  have hD : Ad W2 w.heap.size true false ex mar fp grace late false := by rw [← hW2]; exact Ad.alloc (heap_alloc_new w _) _
  have hF : Ad W2 (w.heap.size + 1) true false ex mar fp grace late false := by
    rw [← hW2]; have := heap_alloc_new (w.alloc (.cells (adCells true false ex mar fp grace late false) 38)) (.cells (adCells true false ex mar fp grace late false) 38); simpa [Ad] using this
  have hZ : W2.heap.size = w.heap.size + 2 := by rw [← hW2]; simp
  have hB2 : Below w.heap.size w W2 := by rw [← hW2]; exact ((Below.refl _ _).alloc (Nat.le_refl _) _).alloc (by simp) _
  clear hW2
  refine (look_gen W2 w.heap.size true false ex mar fp grace late false at1 due1 hD false true hg1 hp1).mono ?_
  rintro e w3 ⟨rfl, fp1, hA3, hS3, hN3, hO3⟩
  have hfp1 := (hN3 rfl).symm
  subst hfp1
  clear hS3 hN3
  have hF3 := hF.block (hO3.block (w.heap.size + 1) (by omega))
  have hZ3 := hO3.size.trans hZ
  have hB3 := hB2.trans (hO3.below (Nat.le_refl _))
  clear hD hF hZ hB2 hO3
  obtain ⟨c7, c8, c9, c10, c12, c13, c14, c26⟩ := hA3.cell
  go_wp2_with fail
  refine (est_any w3 w.heap.size ex mar fp c12 c13 c14).mono ?_
  rintro e w4 ⟨rfl, rfl⟩
  go_wp2_with fail
  refine (final_any _ w.heap.size true (((hA3.alloc _).alloc _).cell).2.2.2.2.2.2.2).mono ?_
  rintro e w4 ⟨rfl, rfl⟩
  go_wp2_with fail
  clear c7 c8 c9 c10 c12 c13 c14 c26
  generalize hW5 : (w3.alloc (.cells #[.float .f64 ex, .float .f64 mar, .float .f64 fp] 27)).alloc (.cells #[.float .f64 ex, .float .f64 mar, .float .f64 fp] 27) = W5
  have hA5 : Ad W5 w.heap.size true true ex mar fp grace late false := by rw [← hW5]; exact (hA3.alloc _).alloc _
  have hF5 : Ad W5 (w.heap.size + 1) true false ex mar fp grace late false := by rw [← hW5]; exact (hF3.alloc _).alloc _
  have hZ5 : W5.heap.size = w.heap.size + 4 := by rw [← hW5]; simp [hZ3]
  have hB5 : Below w.heap.size w W5 := by rw [← hW5]; exact (hB3.alloc (by omega) _).alloc (by simp; omega) _
  have hE5 : W5.heap[w.heap.size + 2 + 1]? = some (.cells #[.float .f64 ex, .float .f64 mar, .float .f64 fp] 27 (0, 0)) := by
    rw [← hW5]; have := heap_alloc_new (w3.alloc (.cells #[.float .f64 ex, .float .f64 mar, .float .f64 fp] 27)) (.cells #[.float .f64 ex, .float .f64 mar, .float .f64 fp] 27); simpa [hZ3] using this
  clear hW5 hA3 hF3 hZ3 hB3
  refine (look_gen W5 w.heap.size true true ex mar fp grace late false at2 due2 hA5 false true (by simp [grantB, pastB]) rfl).mono ?_
  rintro e w6 ⟨rfl, fp2, hA6, hS6, hN6, hO6⟩
  have hfp2 := (hN6 rfl).symm
  subst hfp2
  clear hS6 hN6
  have hF6 := hF5.block (hO6.block (w.heap.size + 1) (by omega))
  have hZ6 := hO6.size.trans hZ5
  have hB6 := hB5.trans (hO6.below (Nat.le_refl _))
  have hE6 := (hO6.block (w.heap.size + 2 + 1) (by omega)).trans hE5
  have e0 : w6.cell? ⟨w.heap.size + 2 + 1, 0, none⟩ = some (.float .f64 ex) := by simp [World.cell?, hE6]
  have e1 : w6.cell? ⟨w.heap.size + 2 + 1, 1, none⟩ = some (.float .f64 mar) := by simp [World.cell?, hE6]
  have e2 : w6.cell? ⟨w.heap.size + 2 + 1, 2, none⟩ = some (.float .f64 fp) := by simp [World.cell?, hE6]
  clear hA5 hF5 hZ5 hB5 hO6 hE5 hE6
  obtain ⟨c7, c8, c9, c10, c12, c13, c14, c26⟩ := hA6.cell
  go_wp2_with fail
  refine (est_any w6 w.heap.size ex mar fp c12 c13 c14).mono ?_
  rintro e w4 ⟨rfl, rfl⟩
  go_wp2_with fail
  refine (final_any _ w.heap.size true (((hA6.alloc _).alloc _).cell).2.2.2.2.2.2.2).mono ?_
  rintro e w4 ⟨rfl, rfl⟩
  have q1 : sameB ex ex = true := sameB_of (Same.refl _)
  have q2 : sameB mar mar = true := sameB_of (Same.refl _)
  have q3 : sameB fp fp = true := sameB_of (Same.refl _)
  have hzn : ((FloatKind.f64).format.order grace 0 != some .eq) = true := by simp only [bne, hz]; rfl
  have hrule : ∀ r, Same r (subC at1 (earl due1 fp)) → ((FloatKind.f64).format.order r late == some .gt) = false := fun r hr => by rw [order_same hr]; exact hl
  clear hg1 hp1 hl
  go_wp2_with (first | (go_at_call 12; refine (zzSame_any _ _ _).mono ?_; rintro e w' ⟨rfl, rfl⟩) | (go_at_call 11; refine (held_any _ _ _ _).mono ?_; rintro e w' ⟨r, rfl, ⟨n, rfl⟩, hr⟩; have hr' := hrule r hr))
  go_ret
  exact ⟨rfl, below_drewN ((hB6.alloc (by omega) _).alloc (by simp; omega) _) _⟩

set_option maxRecDepth 100000 in
set_option maxHeartbeats 1000000 in
theorem look3_zero (w : World) (ex mar fp grace late at1 due1 at2 due2 : Nat) (ho : ((FloatKind.f64).format.order at1 fp == some .gt) = true) (hz : ((FloatKind.f64).format.order grace 0 == some .eq) = true) :
    Calls Try.prog 3 #[.bool true, .bool false, .float .f64 ex, .float .f64 mar, .float .f64 fp, .float .f64 grace, .float .f64 late, .float .f64 at1, .float .f64 due1, .float .f64 at2, .float .f64 due2] w
      fun e w' => e = .returned (.bool true) ∧ Below w.heap.size w w' := by
  have hg1 : grantB true false at1 due1 fp grace late = false := by simp [grantB, bne, hz]
  have hp1 : (false || pastB true false at1 fp) = true := by simp [pastB, ho]
  go_enter Try.func3, Try.ntmps3
  go_wp2_with fail
  refine (new_any true false ex mar fp grace late false w).mono ?_
  rintro e w1 ⟨rfl, rfl⟩
  go_wp2_with fail
  refine (new_any true false ex mar fp grace late false _).mono ?_
  rintro e w1 ⟨rfl, rfl⟩
  go_wp2_with fail
  generalize hW2 : (w.alloc (.cells (adCells true false ex mar fp grace late false) 38)).alloc (.cells (adCells true false ex mar fp grace late false) 38) = W2
  have hD : Ad W2 w.heap.size true false ex mar fp grace late false := by rw [← hW2]; exact Ad.alloc (heap_alloc_new w _) _
  have hF : Ad W2 (w.heap.size + 1) true false ex mar fp grace late false := by
    rw [← hW2]; have := heap_alloc_new (w.alloc (.cells (adCells true false ex mar fp grace late false) 38)) (.cells (adCells true false ex mar fp grace late false) 38); simpa [Ad] using this
  have hZ : W2.heap.size = w.heap.size + 2 := by rw [← hW2]; simp
  have hB2 : Below w.heap.size w W2 := by rw [← hW2]; exact ((Below.refl _ _).alloc (Nat.le_refl _) _).alloc (by simp) _
  clear hW2
  refine (look_gen W2 w.heap.size true false ex mar fp grace late false at1 due1 hD false true hg1 hp1).mono ?_
  rintro e w3 ⟨rfl, fp1, hA3, hS3, hN3, hO3⟩
  have hfp1 := (hN3 rfl).symm
  subst hfp1
  clear hS3 hN3
  have hF3 := hF.block (hO3.block (w.heap.size + 1) (by omega))
  have hZ3 := hO3.size.trans hZ
  have hB3 := hB2.trans (hO3.below (Nat.le_refl _))
  clear hD hF hZ hB2 hO3
  obtain ⟨c7, c8, c9, c10, c12, c13, c14, c26⟩ := hA3.cell
  go_wp2_with fail
  refine (est_any w3 w.heap.size ex mar fp c12 c13 c14).mono ?_
  rintro e w4 ⟨rfl, rfl⟩
  go_wp2_with fail
  refine (final_any _ w.heap.size true (((hA3.alloc _).alloc _).cell).2.2.2.2.2.2.2).mono ?_
  rintro e w4 ⟨rfl, rfl⟩
  go_wp2_with fail
  clear c7 c8 c9 c10 c12 c13 c14 c26
  generalize hW5 : (w3.alloc (.cells #[.float .f64 ex, .float .f64 mar, .float .f64 fp] 27)).alloc (.cells #[.float .f64 ex, .float .f64 mar, .float .f64 fp] 27) = W5
  have hA5 : Ad W5 w.heap.size true true ex mar fp grace late false := by rw [← hW5]; exact (hA3.alloc _).alloc _
  have hF5 : Ad W5 (w.heap.size + 1) true false ex mar fp grace late false := by rw [← hW5]; exact (hF3.alloc _).alloc _
  have hZ5 : W5.heap.size = w.heap.size + 4 := by rw [← hW5]; simp [hZ3]
  have hB5 : Below w.heap.size w W5 := by rw [← hW5]; exact (hB3.alloc (by omega) _).alloc (by simp; omega) _
  have hE5 : W5.heap[w.heap.size + 2 + 1]? = some (.cells #[.float .f64 ex, .float .f64 mar, .float .f64 fp] 27 (0, 0)) := by
    rw [← hW5]; have := heap_alloc_new (w3.alloc (.cells #[.float .f64 ex, .float .f64 mar, .float .f64 fp] 27)) (.cells #[.float .f64 ex, .float .f64 mar, .float .f64 fp] 27); simpa [hZ3] using this
  clear hW5 hA3 hF3 hZ3 hB3
  refine (look_gen W5 w.heap.size true true ex mar fp grace late false at2 due2 hA5 false true (by simp [grantB, pastB]) rfl).mono ?_
  rintro e w6 ⟨rfl, fp2, hA6, hS6, hN6, hO6⟩
  have hfp2 := (hN6 rfl).symm
  subst hfp2
  clear hS6 hN6
  have hF6 := hF5.block (hO6.block (w.heap.size + 1) (by omega))
  have hZ6 := hO6.size.trans hZ5
  have hB6 := hB5.trans (hO6.below (Nat.le_refl _))
  have hE6 := (hO6.block (w.heap.size + 2 + 1) (by omega)).trans hE5
  have e0 : w6.cell? ⟨w.heap.size + 2 + 1, 0, none⟩ = some (.float .f64 ex) := by simp [World.cell?, hE6]
  have e1 : w6.cell? ⟨w.heap.size + 2 + 1, 1, none⟩ = some (.float .f64 mar) := by simp [World.cell?, hE6]
  have e2 : w6.cell? ⟨w.heap.size + 2 + 1, 2, none⟩ = some (.float .f64 fp) := by simp [World.cell?, hE6]
  clear hA5 hF5 hZ5 hB5 hO6 hE5 hE6
  obtain ⟨c7, c8, c9, c10, c12, c13, c14, c26⟩ := hA6.cell
  go_wp2_with fail
  refine (est_any w6 w.heap.size ex mar fp c12 c13 c14).mono ?_
  rintro e w4 ⟨rfl, rfl⟩
  go_wp2_with fail
  refine (final_any _ w.heap.size true (((hA6.alloc _).alloc _).cell).2.2.2.2.2.2.2).mono ?_
  rintro e w4 ⟨rfl, rfl⟩
  have q1 : sameB ex ex = true := sameB_of (Same.refl _)
  have q2 : sameB mar mar = true := sameB_of (Same.refl _)
  have q3 : sameB fp fp = true := sameB_of (Same.refl _)
  have hzn : ((FloatKind.f64).format.order grace 0 != some .eq) = false := by simp only [bne, hz]; rfl
  clear hg1 hp1
  go_wp2_with (go_at_call 12; refine (zzSame_any _ _ _).mono ?_; rintro e w' ⟨rfl, rfl⟩)
  go_ret
  exact ⟨rfl, (hB6.alloc (by omega) _).alloc (by simp; omega) _⟩

end Go.Proofs.Qxb6617322a
