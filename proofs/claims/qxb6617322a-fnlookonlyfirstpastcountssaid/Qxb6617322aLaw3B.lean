/-
  THE WALKS OF FnLookOnlyFirstPastCounts (3): a look that does not count
-/
import Derived.Test.Qxb6617322aLook
import Derived.Test.Qxb6617322aWalkA
namespace Go.Proofs.Qxb6617322a
open Go.RowKit Fl
attribute [local go_sem] run_fadd run_fsub run_fmul run_store_float run_fmin

set_option maxRecDepth 100000 in
set_option maxHeartbeats 1000000 in
theorem look3_no1 (w : World) (ex mar fp grace late at1 due1 at2 due2 : Nat) :
    Calls Try.prog 3 #[.bool false, .bool false, .float .f64 ex, .float .f64 mar, .float .f64 fp, .float .f64 grace, .float .f64 late, .float .f64 at1, .float .f64 due1, .float .f64 at2, .float .f64 due2] w
      fun e w' => e = .returned (.bool true) ∧ Below w.heap.size w w' := by
  have hpn : pastB false false at1 fp = false := by simp [pastB]
  have hg1 : grantB false false at1 due1 fp grace late = false := by simp [grantB, hpn]
  have hp1 : (false || pastB false false at1 fp) = false := by rw [hpn]; rfl
  obtain ⟨g2, hg2⟩ : ∃ g2, grantB false false at2 due2 fp grace late = g2 := ⟨_, rfl⟩
  obtain ⟨p2, hp2⟩ : ∃ p2, (false || pastB false false at2 fp) = p2 := ⟨_, rfl⟩
  go_enter Try.func3, Try.ntmps3
  go_wp2_with fail
  refine (new_any false false ex mar fp grace late false w).mono ?_
  rintro e w1 ⟨rfl, rfl⟩
  go_wp2_with fail
  refine (new_any false false ex mar fp grace late false _).mono ?_
  rintro e w1 ⟨rfl, rfl⟩
  go_wp2_with fail
  generalize hW2 : (w.alloc (.cells (adCells false false ex mar fp grace late false) 38)).alloc (.cells (adCells false false ex mar fp grace late false) 38) = W2
  have hD : Ad W2 w.heap.size false false ex mar fp grace late false := by rw [← hW2]; exact Ad.alloc (heap_alloc_new w _) _
  have hF : Ad W2 (w.heap.size + 1) false false ex mar fp grace late false := by
    rw [← hW2]; have := heap_alloc_new (w.alloc (.cells (adCells false false ex mar fp grace late false) 38)) (.cells (adCells false false ex mar fp grace late false) 38); simpa [Ad] using this
  have hZ : W2.heap.size = w.heap.size + 2 := by rw [← hW2]; simp
  have hB2 : Below w.heap.size w W2 := by rw [← hW2]; exact ((Below.refl _ _).alloc (Nat.le_refl _) _).alloc (by simp) _
  clear hW2
  refine (look_gen W2 w.heap.size false false ex mar fp grace late false at1 due1 hD false false hg1 hp1).mono ?_
  rintro e w3 ⟨rfl, fp1, hA3, hS3, hN3, hO3⟩
  have hfp1 := (hN3 rfl).symm
  subst hfp1
  clear hS3 hN3
  have hF3 := hF.block (hO3.block (w.heap.size + 1) (by omega))
  have hZ3 := hO3.size.trans hZ
  have hB3 := hB2.trans (hO3.below (Nat.le_refl _))
  clear hD hF hZ hB2 hO3
  obtain ⟨c7, c8, c9, c10, c12, c13, c14, c26⟩ := hA3.cell
  go_wp2_with fail
  refine (est_any w3 w.heap.size ex mar fp c12 c13 c14).mono ?_
  rintro e w4 ⟨rfl, rfl⟩
  go_wp2_with fail
  refine (final_any _ w.heap.size false (((hA3.alloc _).alloc _).cell).2.2.2.2.2.2.2).mono ?_
  rintro e w4 ⟨rfl, rfl⟩
  go_wp2_with fail
  clear c7 c8 c9 c10 c12 c13 c14 c26
  generalize hW5 : (w3.alloc (.cells #[.float .f64 ex, .float .f64 mar, .float .f64 fp] 27)).alloc (.cells #[.float .f64 ex, .float .f64 mar, .float .f64 fp] 27) = W5
  have hA5 : Ad W5 w.heap.size false false ex mar fp grace late false := by rw [← hW5]; exact (hA3.alloc _).alloc _
  have hF5 : Ad W5 (w.heap.size + 1) false false ex mar fp grace late false := by rw [← hW5]; exact (hF3.alloc _).alloc _
  have hZ5 : W5.heap.size = w.heap.size + 4 := by rw [← hW5]; simp [hZ3]
  have hB5 : Below w.heap.size w W5 := by rw [← hW5]; exact (hB3.alloc (by omega) _).alloc (by simp; omega) _
  have hE5 : W5.heap[w.heap.size + 2 + 1]? = some (.cells #[.float .f64 ex, .float .f64 mar, .float .f64 fp] 27 (0, 0)) := by
    rw [← hW5]; have := heap_alloc_new (w3.alloc (.cells #[.float .f64 ex, .float .f64 mar, .float .f64 fp] 27)) (.cells #[.float .f64 ex, .float .f64 mar, .float .f64 fp] 27); simpa [hZ3] using this
  clear hW5 hA3 hF3 hZ3 hB3
  refine (look_gen W5 w.heap.size false false ex mar fp grace late false at2 due2 hA5 g2 p2 hg2 hp2).mono ?_
  rintro e w6 ⟨rfl, fp2, hA6, hS6, hN6, hO6⟩
  have HS6 : Hid ((g2 = true → Same fp2 (addC at2 grace)) ∧ (g2 = false → fp2 = fp)) := ⟨hS6, hN6⟩
  clear hS6 hN6
  have hF6 := hF5.block (hO6.block (w.heap.size + 1) (by omega))
  have hZ6 := hO6.size.trans hZ5
  have hB6 := hB5.trans (hO6.below (Nat.le_refl _))
  have hE6 := (hO6.block (w.heap.size + 2 + 1) (by omega)).trans hE5
  have e0 : w6.cell? ⟨w.heap.size + 2 + 1, 0, none⟩ = some (.float .f64 ex) := by simp [World.cell?, hE6]
  have e1 : w6.cell? ⟨w.heap.size + 2 + 1, 1, none⟩ = some (.float .f64 mar) := by simp [World.cell?, hE6]
  have e2 : w6.cell? ⟨w.heap.size + 2 + 1, 2, none⟩ = some (.float .f64 fp) := by simp [World.cell?, hE6]
  clear hA5 hF5 hZ5 hB5 hO6 hE5 hE6
  obtain ⟨c7, c8, c9, c10, c12, c13, c14, c26⟩ := hA6.cell
  go_wp2_with fail
  refine (est_any w6 w.heap.size ex mar fp2 c12 c13 c14).mono ?_
  rintro e w4 ⟨rfl, rfl⟩
  go_wp2_with fail
  refine (final_any _ w.heap.size p2 (((hA6.alloc _).alloc _).cell).2.2.2.2.2.2.2).mono ?_
  rintro e w4 ⟨rfl, rfl⟩
  have q1 : sameB ex ex = true := sameB_of (Same.refl _)
  have q2 : sameB mar mar = true := sameB_of (Same.refl _)
  have q3 : sameB fp fp = true := sameB_of (Same.refl _)
  clear hg1 hp1
  go_wp2_with (go_at_call 12; refine (zzSame_any _ _ _).mono ?_; rintro e w' ⟨rfl, rfl⟩)
  refine (look_gen _ (w.heap.size + 1) false false ex mar fp grace late false at2 due2 ((hF6.alloc _).alloc _) g2 p2 hg2 hp2).mono ?_
  rintro e w7 ⟨rfl, fp7, hA7, hS7, hN7, hO7⟩
  have q4 : sameB fp2 fp7 = true := by
    refine sameB_of ?_
    obtain ⟨s1, s2⟩ := HS6.out
    cases g2 with
    | true => exact (s1 rfl).trans (hS7 rfl).symm
    | false => rw [s2 rfl, hN7 rfl]; exact Same.refl _
  have hZ7 : w7.heap.size = w.heap.size + 6 := by rw [hO7.size]; simp [hZ6]
  have hB7 : Below w.heap.size w w7 := ((hB6.alloc (by omega) _).alloc (by simp; omega) _).trans (hO7.below (by omega))
  have hE7 : w7.heap[w.heap.size + 4 + 1]? = some (.cells #[.float .f64 ex, .float .f64 mar, .float .f64 fp2] 27 (0, 0)) := by
    rw [hO7.block _ (by omega)]
    have := heap_alloc_new (w6.alloc (.cells #[.float .f64 ex, .float .f64 mar, .float .f64 fp2] 27)) (.cells #[.float .f64 ex, .float .f64 mar, .float .f64 fp2] 27)
    simpa [hZ6] using this
  have e72 : w7.cell? ⟨w.heap.size + 4 + 1, 2, none⟩ = some (.float .f64 fp2) := by simp [World.cell?, hE7]
  clear hS7 hN7 hO7 hE7 HS6 hF6 hA6 hB6 hZ6 e0 e1 e2 c7 c8 c9 c10 c12 c13 c14 c26 hg2 hp2
  obtain ⟨c7, c8, c9, c10, c12, c13, c14, c26⟩ := hA7.cell
  go_wp2_with fail
  refine (est_any w7 (w.heap.size + 1) ex mar fp7 c12 c13 c14).mono ?_
  rintro e w4 ⟨rfl, rfl⟩
  go_wp2_with (first | (go_at_call 12; refine (zzSame_any _ _ _).mono ?_; rintro e w' ⟨rfl, rfl⟩) | (go_at_call 10; refine (final_any _ (w.heap.size + 1) p2 (((hA7.alloc _).alloc _).cell).2.2.2.2.2.2.2).mono ?_; rintro e w' ⟨rfl, rfl⟩))
  go_ret
  exact ⟨rfl, (hB7.alloc (by omega) _).alloc (by simp; omega) _⟩

set_option maxRecDepth 100000 in
set_option maxHeartbeats 1000000 in
theorem look3_no2 (w : World) (ex mar fp grace late at1 due1 at2 due2 : Nat) :
    Calls Try.prog 3 #[.bool false, .bool true, .float .f64 ex, .float .f64 mar, .float .f64 fp, .float .f64 grace, .float .f64 late, .float .f64 at1, .float .f64 due1, .float .f64 at2, .float .f64 due2] w
      fun e w' => e = .returned (.bool true) ∧ Below w.heap.size w w' := by
  have hpn : pastB false true at1 fp = false := by simp [pastB]
  have hg1 : grantB false true at1 due1 fp grace late = false := by simp [grantB, hpn]
  have hp1 : (true || pastB false true at1 fp) = true := by rw [hpn]; rfl
  obtain ⟨g2, hg2⟩ : ∃ g2, grantB false true at2 due2 fp grace late = g2 := ⟨_, rfl⟩
  obtain ⟨p2, hp2⟩ : ∃ p2, (true || pastB false true at2 fp) = p2 := ⟨_, rfl⟩
  go_enter Try.func3, Try.ntmps3
  go_wp2_with fail
  refine (new_any false true ex mar fp grace late false w).mono ?_
  rintro e w1 ⟨rfl, rfl⟩
  go_wp2_with fail
  refine (new_any false true ex mar fp grace late false _).mono ?_
  rintro e w1 ⟨rfl, rfl⟩
  go_wp2_with fail
  generalize hW2 : (w.alloc (.cells (adCells false true ex mar fp grace late false) 38)).alloc (.cells (adCells false true ex mar fp grace late false) 38) = W2
  have hD : Ad W2 w.heap.size false true ex mar fp grace late false := by rw [← hW2]; exact Ad.alloc (heap_alloc_new w _) _
  have hF : Ad W2 (w.heap.size + 1) false true ex mar fp grace late false := by
    rw [← hW2]; have := heap_alloc_new (w.alloc (.cells (adCells false true ex mar fp grace late false) 38)) (.cells (adCells false true ex mar fp grace late false) 38); simpa [Ad] using this
  have hZ : W2.heap.size = w.heap.size + 2 := by rw [← hW2]; simp
  have hB2 : Below w.heap.size w W2 := by rw [← hW2]; exact ((Below.refl _ _).alloc (Nat.le_refl _) _).alloc (by simp) _
  clear hW2
  refine (look_gen W2 w.heap.size false true ex mar fp grace late false at1 due1 hD false true hg1 hp1).mono ?_
  rintro e w3 ⟨rfl, fp1, hA3, hS3, hN3, hO3⟩
  have hfp1 := (hN3 rfl).symm
  subst hfp1
  clear hS3 hN3
  have hF3 := hF.block (hO3.block (w.heap.size + 1) (by omega))
  have hZ3 := hO3.size.trans hZ
  have hB3 := hB2.trans (hO3.below (Nat.le_refl _))
  clear hD hF hZ hB2 hO3
  obtain ⟨c7, c8, c9, c10, c12, c13, c14, c26⟩ := hA3.cell
  go_wp2_with fail
  refine (est_any w3 w.heap.size ex mar fp c12 c13 c14).mono ?_
  rintro e w4 ⟨rfl, rfl⟩
  go_wp2_with fail
  refine (final_any _ w.heap.size true (((hA3.alloc _).alloc _).cell).2.2.2.2.2.2.2).mono ?_
  rintro e w4 ⟨rfl, rfl⟩
  go_wp2_with fail
  clear c7 c8 c9 c10 c12 c13 c14 c26
  generalize hW5 : (w3.alloc (.cells #[.float .f64 ex, .float .f64 mar, .float .f64 fp] 27)).alloc (.cells #[.float .f64 ex, .float .f64 mar, .float .f64 fp] 27) = W5
  have hA5 : Ad W5 w.heap.size false true ex mar fp grace late false := by rw [← hW5]; exact (hA3.alloc _).alloc _
  have hF5 : Ad W5 (w.heap.size + 1) false true ex mar fp grace late false := by rw [← hW5]; exact (hF3.alloc _).alloc _
  have hZ5 : W5.heap.size = w.heap.size + 4 := by rw [← hW5]; simp [hZ3]
  have hB5 : Below w.heap.size w W5 := by rw [← hW5]; exact (hB3.alloc (by omega) _).alloc (by simp; omega) _
  have hE5 : W5.heap[w.heap.size + 2 + 1]? = some (.cells #[.float .f64 ex, .float .f64 mar, .float .f64 fp] 27 (0, 0)) := by
    rw [← hW5]; have := heap_alloc_new (w3.alloc (.cells #[.float .f64 ex, .float .f64 mar, .float .f64 fp] 27)) (.cells #[.float .f64 ex, .float .f64 mar, .float .f64 fp] 27); simpa [hZ3] using this
  clear hW5 hA3 hF3 hZ3 hB3
  refine (look_gen W5 w.heap.size false true ex mar fp grace late false at2 due2 hA5 g2 p2 hg2 hp2).mono ?_
  rintro e w6 ⟨rfl, fp2, hA6, hS6, hN6, hO6⟩
  have HS6 : Hid ((g2 = true → Same fp2 (addC at2 grace)) ∧ (g2 = false → fp2 = fp)) := ⟨hS6, hN6⟩
  clear hS6 hN6
  have hF6 := hF5.block (hO6.block (w.heap.size + 1) (by omega))
  have hZ6 := hO6.size.trans hZ5
  have hB6 := hB5.trans (hO6.below (Nat.le_refl _))
  have hE6 := (hO6.block (w.heap.size + 2 + 1) (by omega)).trans hE5
  have e0 : w6.cell? ⟨w.heap.size + 2 + 1, 0, none⟩ = some (.float .f64 ex) := by simp [World.cell?, hE6]
  have e1 : w6.cell? ⟨w.heap.size + 2 + 1, 1, none⟩ = some (.float .f64 mar) := by simp [World.cell?, hE6]
  have e2 : w6.cell? ⟨w.heap.size + 2 + 1, 2, none⟩ = some (.float .f64 fp) := by simp [World.cell?, hE6]
  clear hA5 hF5 hZ5 hB5 hO6 hE5 hE6
  obtain ⟨c7, c8, c9, c10, c12, c13, c14, c26⟩ := hA6.cell
  go_wp2_with fail
  refine (est_any w6 w.heap.size ex mar fp2 c12 c13 c14).mono ?_
  rintro e w4 ⟨rfl, rfl⟩
  go_wp2_with fail
  refine (final_any _ w.heap.size p2 (((hA6.alloc _).alloc _).cell).2.2.2.2.2.2.2).mono ?_
  rintro e w4 ⟨rfl, rfl⟩
  have q1 : sameB ex ex = true := sameB_of (Same.refl _)
  have q2 : sameB mar mar = true := sameB_of (Same.refl _)
  have q3 : sameB fp fp = true := sameB_of (Same.refl _)
  clear hg1 hp1
  go_wp2_with (go_at_call 12; refine (zzSame_any _ _ _).mono ?_; rintro e w' ⟨rfl, rfl⟩)
  refine (look_gen _ (w.heap.size + 1) false true ex mar fp grace late false at2 due2 ((hF6.alloc _).alloc _) g2 p2 hg2 hp2).mono ?_
  rintro e w7 ⟨rfl, fp7, hA7, hS7, hN7, hO7⟩
  have q4 : sameB fp2 fp7 = true := by
    refine sameB_of ?_
    obtain ⟨s1, s2⟩ := HS6.out
    cases g2 with
    | true => exact (s1 rfl).trans (hS7 rfl).symm
    | false => rw [s2 rfl, hN7 rfl]; exact Same.refl _
  have hZ7 : w7.heap.size = w.heap.size + 6 := by rw [hO7.size]; simp [hZ6]
  have hB7 : Below w.heap.size w w7 := ((hB6.alloc (by omega) _).alloc (by simp; omega) _).trans (hO7.below (by omega))
  have hE7 : w7.heap[w.heap.size + 4 + 1]? = some (.cells #[.float .f64 ex, .float .f64 mar, .float .f64 fp2] 27 (0, 0)) := by
    rw [hO7.block _ (by omega)]
    have := heap_alloc_new (w6.alloc (.cells #[.float .f64 ex, .float .f64 mar, .float .f64 fp2] 27)) (.cells #[.float .f64 ex, .float .f64 mar, .float .f64 fp2] 27)
    simpa [hZ6] using this
  have e72 : w7.cell? ⟨w.heap.size + 4 + 1, 2, none⟩ = some (.float .f64 fp2) := by simp [World.cell?, hE7]
  clear hS7 hN7 hO7 hE7 HS6 hF6 hA6 hB6 hZ6 e0 e1 e2 c7 c8 c9 c10 c12 c13 c14 c26 hg2 hp2
  obtain ⟨c7, c8, c9, c10, c12, c13, c14, c26⟩ := hA7.cell
  go_wp2_with fail
  refine (est_any w7 (w.heap.size + 1) ex mar fp7 c12 c13 c14).mono ?_
  rintro e w4 ⟨rfl, rfl⟩
  go_wp2_with (first | (go_at_call 12; refine (zzSame_any _ _ _).mono ?_; rintro e w' ⟨rfl, rfl⟩) | (go_at_call 10; refine (final_any _ (w.heap.size + 1) p2 (((hA7.alloc _).alloc _).cell).2.2.2.2.2.2.2).mono ?_; rintro e w' ⟨rfl, rfl⟩))
  go_ret
  exact ⟨rfl, (hB7.alloc (by omega) _).alloc (by simp; omega) _⟩

set_option maxRecDepth 100000 in
set_option maxHeartbeats 1000000 in
theorem look3_no3 (w : World) (ex mar fp grace late at1 due1 at2 due2 : Nat) :
    Calls Try.prog 3 #[.bool true, .bool true, .float .f64 ex, .float .f64 mar, .float .f64 fp, .float .f64 grace, .float .f64 late, .float .f64 at1, .float .f64 due1, .float .f64 at2, .float .f64 due2] w
      fun e w' => e = .returned (.bool true) ∧ Below w.heap.size w w' := by
  have hpn : pastB true true at1 fp = false := by simp [pastB]
  have hg1 : grantB true true at1 due1 fp grace late = false := by simp [grantB, hpn]
  have hp1 : (true || pastB true true at1 fp) = true := by rw [hpn]; rfl
  obtain ⟨g2, hg2⟩ : ∃ g2, grantB true true at2 due2 fp grace late = g2 := ⟨_, rfl⟩
  obtain ⟨p2, hp2⟩ : ∃ p2, (true || pastB true true at2 fp) = p2 := ⟨_, rfl⟩
  go_enter Try.func3, Try.ntmps3
  go_wp2_with fail
  refine (new_any true true ex mar fp grace late false w).mono ?_
  rintro e w1 ⟨rfl, rfl⟩
  go_wp2_with fail
  refine (new_any true true ex mar fp grace late false _).mono ?_
  rintro e w1 ⟨rfl, rfl⟩
  go_wp2_with fail
  generalize hW2 : (w.alloc (.cells (adCells true true ex mar fp grace late false) 38)).alloc (.cells (adCells true true ex mar fp grace late false) 38) = W2
  have hD : Ad W2 w.heap.size true true ex mar fp grace late false := by rw [← hW2]; exact Ad.alloc (heap_alloc_new w _) _
  have hF : Ad W2 (w.heap.size + 1) true true ex mar fp grace late false := by
    rw [← hW2]; have := heap_alloc_new (w.alloc (.cells (adCells true true ex mar fp grace late false) 38)) (.cells (adCells true true ex mar fp grace late false) 38); simpa [Ad] using this
  have hZ : W2.heap.size = w.heap.size + 2 := by rw [← hW2]; simp
  have hB2 : Below w.heap.size w W2 := by rw [← hW2]; exact ((Below.refl _ _).alloc (Nat.le_refl _) _).alloc (by simp) _
  clear hW2
  refine (look_gen W2 w.heap.size true true ex mar fp grace late false at1 due1 hD false true hg1 hp1).mono ?_
  rintro e w3 ⟨rfl, fp1, hA3, hS3, hN3, hO3⟩
  have hfp1 := (hN3 rfl).symm
  subst hfp1
  clear hS3 hN3
  have hF3 := hF.block (hO3.block (w.heap.size + 1) (by omega))
  have hZ3 := hO3.size.trans hZ
  have hB3 := hB2.trans (hO3.below (Nat.le_refl _))
  clear hD hF hZ hB2 hO3
  obtain ⟨c7, c8, c9, c10, c12, c13, c14, c26⟩ := hA3.cell
  go_wp2_with fail
  refine (est_any w3 w.heap.size ex mar fp c12 c13 c14).mono ?_
  rintro e w4 ⟨rfl, rfl⟩
  go_wp2_with fail
  refine (final_any _ w.heap.size true (((hA3.alloc _).alloc _).cell).2.2.2.2.2.2.2).mono ?_
  rintro e w4 ⟨rfl, rfl⟩
  go_wp2_with fail
  clear c7 c8 c9 c10 c12 c13 c14 c26
  generalize hW5 : (w3.alloc (.cells #[.float .f64 ex, .float .f64 mar, .float .f64 fp] 27)).alloc (.cells #[.float .f64 ex, .float .f64 mar, .float .f64 fp] 27) = W5
  have hA5 : Ad W5 w.heap.size true true ex mar fp grace late false := by rw [← hW5]; exact (hA3.alloc _).alloc _
  have hF5 : Ad W5 (w.heap.size + 1) true true ex mar fp grace late false := by rw [← hW5]; exact (hF3.alloc _).alloc _
  have hZ5 : W5.heap.size = w.heap.size + 4 := by rw [← hW5]; simp [hZ3]
  have hB5 : Below w.heap.size w W5 := by rw [← hW5]; exact (hB3.alloc (by omega) _).alloc (by simp; omega) _
  have hE5 : W5.heap[w.heap.size + 2 + 1]? = some (.cells #[.float .f64 ex, .float .f64 mar, .float .f64 fp] 27 (0, 0)) := by
    rw [← hW5]; have := heap_alloc_new (w3.alloc (.cells #[.float .f64 ex, .float .f64 mar, .float .f64 fp] 27)) (.cells #[.float .f64 ex, .float .f64 mar, .float .f64 fp] 27); simpa [hZ3] using this
  clear hW5 hA3 hF3 hZ3 hB3
  refine (look_gen W5 w.heap.size true true ex mar fp grace late false at2 due2 hA5 g2 p2 hg2 hp2).mono ?_
  rintro e w6 ⟨rfl, fp2, hA6, hS6, hN6, hO6⟩
  have HS6 : Hid ((g2 = true → Same fp2 (addC at2 grace)) ∧ (g2 = false → fp2 = fp)) := ⟨hS6, hN6⟩
  clear hS6 hN6
  have hF6 := hF5.block (hO6.block (w.heap.size + 1) (by omega))
  have hZ6 := hO6.size.trans hZ5
  have hB6 := hB5.trans (hO6.below (Nat.le_refl _))
  have hE6 := (hO6.block (w.heap.size + 2 + 1) (by omega)).trans hE5
  have e0 : w6.cell? ⟨w.heap.size + 2 + 1, 0, none⟩ = some (.float .f64 ex) := by simp [World.cell?, hE6]
  have e1 : w6.cell? ⟨w.heap.size + 2 + 1, 1, none⟩ = some (.float .f64 mar) := by simp [World.cell?, hE6]
  have e2 : w6.cell? ⟨w.heap.size + 2 + 1, 2, none⟩ = some (.float .f64 fp) := by simp [World.cell?, hE6]
  clear hA5 hF5 hZ5 hB5 hO6 hE5 hE6
  obtain ⟨c7, c8, c9, c10, c12, c13, c14, c26⟩ := hA6.cell
  go_wp2_with fail
  refine (est_any w6 w.heap.size ex mar fp2 c12 c13 c14).mono ?_
  rintro e w4 ⟨rfl, rfl⟩
  go_wp2_with fail
  refine (final_any _ w.heap.size p2 (((hA6.alloc _).alloc _).cell).2.2.2.2.2.2.2).mono ?_
  rintro e w4 ⟨rfl, rfl⟩
  have q1 : sameB ex ex = true := sameB_of (Same.refl _)
  have q2 : sameB mar mar = true := sameB_of (Same.refl _)
  have q3 : sameB fp fp = true := sameB_of (Same.refl _)
  clear hg1 hp1
  go_wp2_with (go_at_call 12; refine (zzSame_any _ _ _).mono ?_; rintro e w' ⟨rfl, rfl⟩)
  refine (look_gen _ (w.heap.size + 1) true true ex mar fp grace late false at2 due2 ((hF6.alloc _).alloc _) g2 p2 hg2 hp2).mono ?_
  rintro e w7 ⟨rfl, fp7, hA7, hS7, hN7, hO7⟩
  have q4 : sameB fp2 fp7 = true := by
    refine sameB_of ?_
    obtain ⟨s1, s2⟩ := HS6.out
    cases g2 with
    | true => exact (s1 rfl).trans (hS7 rfl).symm
    | false => rw [s2 rfl, hN7 rfl]; exact Same.refl _
  have hZ7 : w7.heap.size = w.heap.size + 6 := by rw [hO7.size]; simp [hZ6]
  have hB7 : Below w.heap.size w w7 := ((hB6.alloc (by omega) _).alloc (by simp; omega) _).trans (hO7.below (by omega))
  have hE7 : w7.heap[w.heap.size + 4 + 1]? = some (.cells #[.float .f64 ex, .float .f64 mar, .float .f64 fp2] 27 (0, 0)) := by
    rw [hO7.block _ (by omega)]
    have := heap_alloc_new (w6.alloc (.cells #[.float .f64 ex, .float .f64 mar, .float .f64 fp2] 27)) (.cells #[.float .f64 ex, .float .f64 mar, .float .f64 fp2] 27)
    simpa [hZ6] using this
  have e72 : w7.cell? ⟨w.heap.size + 4 + 1, 2, none⟩ = some (.float .f64 fp2) := by simp [World.cell?, hE7]
  clear hS7 hN7 hO7 hE7 HS6 hF6 hA6 hB6 hZ6 e0 e1 e2 c7 c8 c9 c10 c12 c13 c14 c26 hg2 hp2
  obtain ⟨c7, c8, c9, c10, c12, c13, c14, c26⟩ := hA7.cell
  go_wp2_with fail
  refine (est_any w7 (w.heap.size + 1) ex mar fp7 c12 c13 c14).mono ?_
  rintro e w4 ⟨rfl, rfl⟩
  go_wp2_with (first | (go_at_call 12; refine (zzSame_any _ _ _).mono ?_; rintro e w' ⟨rfl, rfl⟩) | (go_at_call 10; refine (final_any _ (w.heap.size + 1) p2 (((hA7.alloc _).alloc _).cell).2.2.2.2.2.2.2).mono ?_; rintro e w' ⟨rfl, rfl⟩))
  go_ret
  exact ⟨rfl, (hB7.alloc (by omega) _).alloc (by simp; omega) _⟩

set_option maxRecDepth 100000 in
set_option maxHeartbeats 1000000 in
theorem look3_no4 (w : World) (ex mar fp grace late at1 due1 at2 due2 : Nat) (ho : ((FloatKind.f64).format.order at1 fp == some .gt) = false) :
    Calls Try.prog 3 #[.bool true, .bool false, .float .f64 ex, .float .f64 mar, .float .f64 fp, .float .f64 grace, .float .f64 late, .float .f64 at1, .float .f64 due1, .float .f64 at2, .float .f64 due2] w
      fun e w' => e = .returned (.bool true) ∧ Below w.heap.size w w' := by
  have hpn : pastB true false at1 fp = false := by simp [pastB, ho]
  have hg1 : grantB true false at1 due1 fp grace late = false := by simp [grantB, hpn]
  have hp1 : (false || pastB true false at1 fp) = false := by rw [hpn]; rfl
  obtain ⟨g2, hg2⟩ : ∃ g2, grantB true false at2 due2 fp grace late = g2 := ⟨_, rfl⟩
  obtain ⟨p2, hp2⟩ : ∃ p2, (false || pastB true false at2 fp) = p2 := ⟨_, rfl⟩
  go_enter Try.func3, Try.ntmps3
  go_wp2_with fail
  refine (new_any true false ex mar fp grace late false w).mono ?_
  rintro e w1 ⟨rfl, rfl⟩
  go_wp2_with fail
  refine (new_any true false ex mar fp grace late false _).mono ?_
  rintro e w1 ⟨rfl, rfl⟩
  go_wp2_with fail
  generalize hW2 : (w.alloc (.cells (adCells true false ex mar fp grace late false) 38)).alloc (.cells (adCells true false ex mar fp grace late false) 38) = W2
  have hD : Ad W2 w.heap.size true false ex mar fp grace late false := by rw [← hW2]; exact Ad.alloc (heap_alloc_new w _) _
  have hF : Ad W2 (w.heap.size + 1) true false ex mar fp grace late false := by
    rw [← hW2]; have := heap_alloc_new (w.alloc (.cells (adCells true false ex mar fp grace late false) 38)) (.cells (adCells true false ex mar fp grace late false) 38); simpa [Ad] using this
  have hZ : W2.heap.size = w.heap.size + 2 := by rw [← hW2]; simp
  have hB2 : Below w.heap.size w W2 := by rw [← hW2]; exact ((Below.refl _ _).alloc (Nat.le_refl _) _).alloc (by simp) _
  clear hW2
  refine (look_gen W2 w.heap.size true false ex mar fp grace late false at1 due1 hD false false hg1 hp1).mono ?_
  rintro e w3 ⟨rfl, fp1, hA3, hS3, hN3, hO3⟩
  have hfp1 := (hN3 rfl).symm
  subst hfp1
  clear hS3 hN3
  have hF3 := hF.block (hO3.block (w.heap.size + 1) (by omega))
  have hZ3 := hO3.size.trans hZ
  have hB3 := hB2.trans (hO3.below (Nat.le_refl _))
  clear hD hF hZ hB2 hO3
  obtain ⟨c7, c8, c9, c10, c12, c13, c14, c26⟩ := hA3.cell
  go_wp2_with fail
  refine (est_any w3 w.heap.size ex mar fp c12 c13 c14).mono ?_
  rintro e w4 ⟨rfl, rfl⟩
  go_wp2_with fail
  refine (final_any _ w.heap.size false (((hA3.alloc _).alloc _).cell).2.2.2.2.2.2.2).mono ?_
  rintro e w4 ⟨rfl, rfl⟩
  go_wp2_with fail
  clear c7 c8 c9 c10 c12 c13 c14 c26
  generalize hW5 : (w3.alloc (.cells #[.float .f64 ex, .float .f64 mar, .float .f64 fp] 27)).alloc (.cells #[.float .f64 ex, .float .f64 mar, .float .f64 fp] 27) = W5
  have hA5 : Ad W5 w.heap.size true false ex mar fp grace late false := by rw [← hW5]; exact (hA3.alloc _).alloc _
  have hF5 : Ad W5 (w.heap.size + 1) true false ex mar fp grace late false := by rw [← hW5]; exact (hF3.alloc _).alloc _
  have hZ5 : W5.heap.size = w.heap.size + 4 := by rw [← hW5]; simp [hZ3]
  have hB5 : Below w.heap.size w W5 := by rw [← hW5]; exact (hB3.alloc (by omega) _).alloc (by simp; omega) _
  have hE5 : W5.heap[w.heap.size + 2 + 1]? = some (.cells #[.float .f64 ex, .float .f64 mar, .float .f64 fp] 27 (0, 0)) := by
    rw [← hW5]; have := heap_alloc_new (w3.alloc (.cells #[.float .f64 ex, .float .f64 mar, .float .f64 fp] 27)) (.cells #[.float .f64 ex, .float .f64 mar, .float .f64 fp] 27); simpa [hZ3] using this
  clear hW5 hA3 hF3 hZ3 hB3
  refine (look_gen W5 w.heap.size true false ex mar fp grace late false at2 due2 hA5 g2 p2 hg2 hp2).mono ?_
  rintro e w6 ⟨rfl, fp2, hA6, hS6, hN6, hO6⟩
  have HS6 : Hid ((g2 = true → Same fp2 (addC at2 grace)) ∧ (g2 = false → fp2 = fp)) := ⟨hS6, hN6⟩
  clear hS6 hN6
  have hF6 := hF5.block (hO6.block (w.heap.size + 1) (by omega))
  have hZ6 := hO6.size.trans hZ5
  have hB6 := hB5.trans (hO6.below (Nat.le_refl _))
  have hE6 := (hO6.block (w.heap.size + 2 + 1) (by omega)).trans hE5
  have e0 : w6.cell? ⟨w.heap.size + 2 + 1, 0, none⟩ = some (.float .f64 ex) := by simp [World.cell?, hE6]
  have e1 : w6.cell? ⟨w.heap.size + 2 + 1, 1, none⟩ = some (.float .f64 mar) := by simp [World.cell?, hE6]
  have e2 : w6.cell? ⟨w.heap.size + 2 + 1, 2, none⟩ = some (.float .f64 fp) := by simp [World.cell?, hE6]
  clear hA5 hF5 hZ5 hB5 hO6 hE5 hE6
  obtain ⟨c7, c8, c9, c10, c12, c13, c14, c26⟩ := hA6.cell
  go_wp2_with fail
  refine (est_any w6 w.heap.size ex mar fp2 c12 c13 c14).mono ?_
  rintro e w4 ⟨rfl, rfl⟩
  go_wp2_with fail
  refine (final_any _ w.heap.size p2 (((hA6.alloc _).alloc _).cell).2.2.2.2.2.2.2).mono ?_
  rintro e w4 ⟨rfl, rfl⟩
  have q1 : sameB ex ex = true := sameB_of (Same.refl _)
  have q2 : sameB mar mar = true := sameB_of (Same.refl _)
  have q3 : sameB fp fp = true := sameB_of (Same.refl _)
  clear hg1 hp1
  go_wp2_with (go_at_call 12; refine (zzSame_any _ _ _).mono ?_; rintro e w' ⟨rfl, rfl⟩)
  refine (look_gen _ (w.heap.size + 1) true false ex mar fp grace late false at2 due2 ((hF6.alloc _).alloc _) g2 p2 hg2 hp2).mono ?_
  rintro e w7 ⟨rfl, fp7, hA7, hS7, hN7, hO7⟩
  have q4 : sameB fp2 fp7 = true := by
    refine sameB_of ?_
    obtain ⟨s1, s2⟩ := HS6.out
    cases g2 with
    | true => exact (s1 rfl).trans (hS7 rfl).symm
    | false => rw [s2 rfl, hN7 rfl]; exact Same.refl _
  have hZ7 : w7.heap.size = w.heap.size + 6 := by rw [hO7.size]; simp [hZ6]
  have hB7 : Below w.heap.size w w7 := ((hB6.alloc (by omega) _).alloc (by simp; omega) _).trans (hO7.below (by omega))
  have hE7 : w7.heap[w.heap.size + 4 + 1]? = some (.cells #[.float .f64 ex, .float .f64 mar, .float .f64 fp2] 27 (0, 0)) := by
    rw [hO7.block _ (by omega)]
    have := heap_alloc_new (w6.alloc (.cells #[.float .f64 ex, .float .f64 mar, .float .f64 fp2] 27)) (.cells #[.float .f64 ex, .float .f64 mar, .float .f64 fp2] 27)
    simpa [hZ6] using this
  have e72 : w7.cell? ⟨w.heap.size + 4 + 1, 2, none⟩ = some (.float .f64 fp2) := by simp [World.cell?, hE7]
  clear hS7 hN7 hO7 hE7 HS6 hF6 hA6 hB6 hZ6 e0 e1 e2 c7 c8 c9 c10 c12 c13 c14 c26 hg2 hp2
  obtain ⟨c7, c8, c9, c10, c12, c13, c14, c26⟩ := hA7.cell
  go_wp2_with fail
  refine (est_any w7 (w.heap.size + 1) ex mar fp7 c12 c13 c14).mono ?_
  rintro e w4 ⟨rfl, rfl⟩
  go_wp2_with (first | (go_at_call 12; refine (zzSame_any _ _ _).mono ?_; rintro e w' ⟨rfl, rfl⟩) | (go_at_call 10; refine (final_any _ (w.heap.size + 1) p2 (((hA7.alloc _).alloc _).cell).2.2.2.2.2.2.2).mono ?_; rintro e w' ⟨rfl, rfl⟩))
  go_ret
  exact ⟨rfl, (hB7.alloc (by omega) _).alloc (by simp; omega) _⟩

end Go.Proofs.Qxb6617322a
