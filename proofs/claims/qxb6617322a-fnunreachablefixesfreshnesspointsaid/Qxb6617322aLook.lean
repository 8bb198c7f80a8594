/-
  THE WALKS OF (*Adaptive).Look (8) AND (*Adaptive).Unreachable (17).
-/
import Derived.Test.Qxb6617322aAd
namespace Go.Proofs.Qxb6617322a
open Go.RowKit Fl
attribute [local go_sem] run_fadd run_fsub run_fmul run_store_float run_fmin

/-- A look past the freshness point that counts. -/
def pastB (acc fin : Bool) (at_ fp : Nat) : Bool := acc && !fin && ((FloatKind.f64).format.order at_ fp == some .gt)
/-- The observer was held back too long. -/
def lateB (at_ due fp late : Nat) : Bool := (FloatKind.f64).format.order (subC at_ (earl due fp)) late == some .gt
def grantB (acc fin : Bool) (at_ due fp grace late : Nat) : Bool := pastB acc fin at_ fp && ((FloatKind.f64).format.order grace 0 != some .eq) && lateB at_ due fp late

/-- Block B alone may have been written; no block is new. -/
structure Only (B : Nat) (w w' : World) : Prop where
  os : w'.os = w.os
  tape : w'.tape = w.tape
  output : w'.output = w.output
  size : w'.heap.size = w.heap.size
  block : ∀ k, k ≠ B → w'.heap[k]? = w.heap[k]?

theorem Only.refl (B : Nat) (w : World) : Only B w w := ⟨rfl, rfl, rfl, rfl, fun _ _ => rfl⟩
theorem Only.drewN {B : Nat} {w w' : World} (h : Only B w w') (n : Nat) : Only B w (w'.drewN n) := ⟨h.os, h.tape, h.output, h.size, h.block⟩
theorem Only.setCell {B : Nat} {w w' : World} (h : Only B w w') (j : Nat) (u : Value) : Only B w (w'.setCell ⟨B, j, none⟩ u) :=
  ⟨h.os, h.tape, h.output, by rw [← h.size]; simp [World.setCell], fun k hk => (heap_setCell_other w' ⟨B, j, none⟩ k u hk).trans (h.block k hk)⟩

theorem Only.cell {B : Nat} {w w' : World} (h : Only B w w') (b o : Nat) (hb : b ≠ B) : w'.cell? ⟨b, o, none⟩ = w.cell? ⟨b, o, none⟩ := World.cell?_of_block (h.block b hb)
theorem Only.below {B C : Nat} {w w' : World} (h : Only B w w') (hC : C ≤ B) : Below C w w' := ⟨h.os, h.tape, h.output, by rw [h.size]; exact Nat.le_refl _, fun k hk => h.block k (by omega)⟩

def LookEnds (w : World) (B : Nat) (acc fin : Bool) (ex mar fp grace late : Nat) (unr : Bool) (at_ due : Nat) (e : Ending) (w' : World) : Prop :=
  e = .returned (.bool (grantB acc fin at_ due fp grace late)) ∧ ∃ fp', Ad w' B acc (fin || pastB acc fin at_ fp) ex mar fp' grace late unr ∧
    (grantB acc fin at_ due fp grace late = true → Same fp' (addC at_ grace)) ∧ (grantB acc fin at_ due fp grace late = false → fp' = fp) ∧ Only B w w'

section
variable (w : World) (B : Nat) (acc fin : Bool) (ex mar fp grace late : Nat) (unr : Bool) (at_ due : Nat)

set_option maxRecDepth 100000 in
theorem look_no1 (h : Ad w B false fin ex mar fp grace late unr) :
    Calls Try.prog 8 #[.pointer (some ⟨B, 0, none⟩), .float .f64 at_, .float .f64 due] w fun e w' => e = .returned (.bool false) ∧ w' = w := by
  obtain ⟨c7, c8, c9, c10, c12, c13, c14, c26⟩ := h.cell
  go_enter Try.func8, Try.ntmps8
  go_wp2
  go_ret
  exact ⟨rfl, rfl⟩

set_option maxRecDepth 100000 in
theorem look_no2 (h : Ad w B true true ex mar fp grace late unr) :
    Calls Try.prog 8 #[.pointer (some ⟨B, 0, none⟩), .float .f64 at_, .float .f64 due] w fun e w' => e = .returned (.bool false) ∧ w' = w := by
  obtain ⟨c7, c8, c9, c10, c12, c13, c14, c26⟩ := h.cell
  go_enter Try.func8, Try.ntmps8
  go_wp2
  go_ret
  exact ⟨rfl, rfl⟩

set_option maxRecDepth 100000 in
theorem look_no3 (h : Ad w B true false ex mar fp grace late unr) (ho : ((FloatKind.f64).format.order at_ fp == some .gt) = false) :
    Calls Try.prog 8 #[.pointer (some ⟨B, 0, none⟩), .float .f64 at_, .float .f64 due] w fun e w' => e = .returned (.bool false) ∧ w' = w := by
  obtain ⟨c7, c8, c9, c10, c12, c13, c14, c26⟩ := h.cell
  go_enter Try.func8, Try.ntmps8
  go_wp2
  go_ret
  exact ⟨rfl, rfl⟩

set_option maxRecDepth 100000 in
theorem look_zero (h : Ad w B true false ex mar fp grace late unr) (ho : ((FloatKind.f64).format.order at_ fp == some .gt) = true) (hz : ((FloatKind.f64).format.order grace 0 == some .eq) = true) :
    Calls Try.prog 8 #[.pointer (some ⟨B, 0, none⟩), .float .f64 at_, .float .f64 due] w fun e w' => e = .returned (.bool false) ∧ w' = w.setCell ⟨B, 26, none⟩ (.bool true) := by
  obtain ⟨c7, c8, c9, c10, c12, c13, c14, c26⟩ := h.cell
  have f26 := h.frozen 26
  go_enter Try.func8, Try.ntmps8
  go_wp2
  go_ret
  exact ⟨rfl, rfl⟩

set_option maxRecDepth 100000 in
theorem look_late (h : Ad w B true false ex mar fp grace late unr) (ho : ((FloatKind.f64).format.order at_ fp == some .gt) = true) (hz : ((FloatKind.f64).format.order grace 0 == some .eq) = false) (hl : lateB at_ due fp late = false) :
    Calls Try.prog 8 #[.pointer (some ⟨B, 0, none⟩), .float .f64 at_, .float .f64 due] w fun e w' => e = .returned (.bool false) ∧ ∃ n, w' = (w.setCell ⟨B, 26, none⟩ (.bool true)).drewN n := by
  obtain ⟨c7, c8, c9, c10, c12, c13, c14, c26⟩ := h.cell
  have f26 := h.frozen 26
  have hg : (FloatKind.f64).format.order at_ fp = some .gt := by simpa using ho
  have hr : ∀ w1 w2 : World, ((FloatKind.f64).format.order (fop .sub w1 at_ (fmin w2 due fp)) late == some .gt) = false := fun w1 w2 => by rw [order_same (held_same w2 w1 hg)]; exact hl
  clear hg hl
  go_enter Try.func8, Try.ntmps8
  go_wp2
  go_ret
  exact ⟨rfl, _, rfl⟩

set_option maxRecDepth 100000 in
theorem look_grant (h : Ad w B true false ex mar fp grace late unr) (ho : ((FloatKind.f64).format.order at_ fp == some .gt) = true) (hz : ((FloatKind.f64).format.order grace 0 == some .eq) = false) (hl : lateB at_ due fp late = true) :
    Calls Try.prog 8 #[.pointer (some ⟨B, 0, none⟩), .float .f64 at_, .float .f64 due] w fun e w' => e = .returned (.bool true) ∧ ∃ n w1, w' = ((w.setCell ⟨B, 26, none⟩ (.bool true)).drewN n).setCell ⟨B, 14, none⟩ (.float .f64 (fop .add w1 at_ grace)) := by
  obtain ⟨c7, c8, c9, c10, c12, c13, c14, c26⟩ := h.cell
  have f26 := h.frozen 26
  have f14 := h.frozen 14
  have hg : (FloatKind.f64).format.order at_ fp = some .gt := by simpa using ho
  have hr : ∀ w1 w2 : World, ((FloatKind.f64).format.order (fop .sub w1 at_ (fmin w2 due fp)) late == some .gt) = true := fun w1 w2 => by rw [order_same (held_same w2 w1 hg)]; exact hl
  clear hg hl
  go_enter Try.func8, Try.ntmps8
  go_wp2
  go_ret
  exact ⟨rfl, _, _, rfl⟩

theorem look_any (h : Ad w B acc fin ex mar fp grace late unr) :
    Calls Try.prog 8 #[.pointer (some ⟨B, 0, none⟩), .float .f64 at_, .float .f64 due] w (LookEnds w B acc fin ex mar fp grace late unr at_ due) := by
  have no : pastB acc fin at_ fp = false → ∀ e w', e = .returned (.bool false) ∧ w' = w → LookEnds w B acc fin ex mar fp grace late unr at_ due e w' := by
    rintro hp e w' ⟨rfl, rfl⟩
    have hg : grantB acc fin at_ due fp grace late = false := by simp [grantB, hp]
    refine ⟨by rw [hg], fp, ?_, fun h' => by (rw [hg] at h'; cases h'), fun _ => rfl, Only.refl _ _⟩
    rw [hp, Bool.or_false]; exact h
  cases acc with
  | false => exact (look_no1 w B fin ex mar fp grace late unr at_ due h).mono (no (by simp [pastB]))
  | true =>
    cases fin with
    | true => exact (look_no2 w B ex mar fp grace late unr at_ due h).mono (no (by simp [pastB]))
    | false =>
      cases ho : ((FloatKind.f64).format.order at_ fp == some .gt) with
      | false => exact (look_no3 w B ex mar fp grace late unr at_ due h ho).mono (no (by simp [pastB, ho]))
      | true =>
        have hp : pastB true false at_ fp = true := by simp [pastB, ho]
        cases hz : ((FloatKind.f64).format.order grace 0 == some .eq) with
        | true =>
          have hg : grantB true false at_ due fp grace late = false := by simp [grantB, hp, bne, hz]
          refine (look_zero w B ex mar fp grace late unr at_ due h ho hz).mono ?_
          rintro e w' ⟨rfl, rfl⟩
          refine ⟨by rw [hg], fp, ?_, fun h' => by (rw [hg] at h'; cases h'), fun _ => rfl, (Only.refl _ _).setCell _ _⟩
          rw [hp]; exact h.setFin true
        | false =>
          cases hl : lateB at_ due fp late with
          | false =>
            have hg : grantB true false at_ due fp grace late = false := by simp [grantB, hl]
            refine (look_late w B ex mar fp grace late unr at_ due h ho hz hl).mono ?_
            rintro e w' ⟨rfl, n, rfl⟩
            refine ⟨by rw [hg], fp, ?_, fun h' => by (rw [hg] at h'; cases h'), fun _ => rfl, ((Only.refl _ _).setCell _ _).drewN _⟩
            rw [hp]; exact (h.setFin true).drewN _
          | true =>
            have hg : grantB true false at_ due fp grace late = true := by simp [grantB, hp, bne, hz, hl]
            refine (look_grant w B ex mar fp grace late unr at_ due h ho hz hl).mono ?_
            rintro e w' ⟨rfl, n, w1, rfl⟩
            refine ⟨by rw [hg], fop .add w1 at_ grace, ?_, fun _ => fadd_same _ (Same.refl _) (Same.refl _), fun h' => by (rw [hg] at h'; cases h'), (((Only.refl _ _).setCell _ _).drewN _).setCell _ _⟩
            rw [hp]; exact ((h.setFin true).drewN _).setFp _

theorem look_gen (h : Ad w B acc fin ex mar fp grace late unr) (g p : Bool) (hg : grantB acc fin at_ due fp grace late = g) (hp : (fin || pastB acc fin at_ fp) = p) :
    Calls Try.prog 8 #[.pointer (some ⟨B, 0, none⟩), .float .f64 at_, .float .f64 due] w fun e w' => e = .returned (.bool g) ∧ ∃ fp', Ad w' B acc p ex mar fp' grace late unr ∧ (g = true → Same fp' (addC at_ grace)) ∧ (g = false → fp' = fp) ∧ Only B w w' := by
  refine (look_any w B acc fin ex mar fp grace late unr at_ due h).mono ?_
  intro e w' hh
  unfold LookEnds at hh
  rw [hg, hp] at hh
  exact hh

/-- The report is taken: the setting is on and it comes before the freshness point. -/
def movedB (unr : Bool) (u fp : Nat) : Bool := unr && ((FloatKind.f64).format.order u fp == some .lt)

set_option maxRecDepth 100000 in
theorem unr_no1 (u : Nat) (h : Ad w B acc fin ex mar fp grace late false) :
    Calls Try.prog 17 #[.pointer (some ⟨B, 0, none⟩), .float .f64 u] w fun e w' => e = .returned (.bool false) ∧ ∃ n, w' = w.drewN n := by
  obtain ⟨c7, c8, c9, c10, c12, c13, c14, c26⟩ := h.cell
  go_enter Try.func17, Try.ntmps17
  go_wp2
  go_ret
  exact ⟨rfl, 0, rfl⟩

set_option maxRecDepth 100000 in
theorem unr_no2 (u : Nat) (h : Ad w B acc fin ex mar fp grace late true) (ho : ((FloatKind.f64).format.order u fp == some .lt) = false) :
    Calls Try.prog 17 #[.pointer (some ⟨B, 0, none⟩), .float .f64 u] w fun e w' => e = .returned (.bool false) ∧ ∃ n, w' = w.drewN n := by
  obtain ⟨c7, c8, c9, c10, c12, c13, c14, c26⟩ := h.cell
  go_enter Try.func17, Try.ntmps17
  go_wp2
  go_ret
  exact ⟨rfl, 0, rfl⟩

set_option maxRecDepth 100000 in
theorem unr_yes (u : Nat) (h : Ad w B acc fin ex mar fp grace late true) (ho : ((FloatKind.f64).format.order u fp == some .lt) = true) :
    Calls Try.prog 17 #[.pointer (some ⟨B, 0, none⟩), .float .f64 u] w fun e w' => e = .returned (.bool true) ∧ ∃ n, w' = ((w.drewN n).setCell ⟨B, 14, none⟩ (.float .f64 u)).setCell ⟨B, 26, none⟩ (.bool true) := by
  obtain ⟨c7, c8, c9, c10, c12, c13, c14, c26⟩ := h.cell
  have f26 := h.frozen 26
  have f14 := h.frozen 14
  go_enter Try.func17, Try.ntmps17
  go_wp2
  go_ret
  exact ⟨rfl, 0, rfl⟩

theorem unr_any (u : Nat) (h : Ad w B acc fin ex mar fp grace late unr) :
    Calls Try.prog 17 #[.pointer (some ⟨B, 0, none⟩), .float .f64 u] w fun e w' => e = .returned (.bool (movedB unr u fp)) ∧
      Ad w' B acc (fin || movedB unr u fp) ex mar (if movedB unr u fp = true then u else fp) grace late unr ∧ Only B w w' := by
  cases unr with
  | false =>
    refine (unr_no1 w B acc fin ex mar fp grace late u h).mono ?_
    rintro e w' ⟨rfl, n, rfl⟩
    exact ⟨rfl, by simpa [movedB] using h.drewN n, (Only.refl _ _).drewN _⟩
  | true =>
    cases ho : ((FloatKind.f64).format.order u fp == some .lt) with
    | false =>
      have hm : movedB true u fp = false := by simp [movedB, ho]
      refine (unr_no2 w B acc fin ex mar fp grace late u h ho).mono ?_
      rintro e w' ⟨rfl, n, rfl⟩
      exact ⟨by rw [hm], by rw [hm, Bool.or_false]; exact h.drewN n, (Only.refl _ _).drewN _⟩
    | true =>
      have hm : movedB true u fp = true := by simp [movedB, ho]
      refine (unr_yes w B acc fin ex mar fp grace late u h ho).mono ?_
      rintro e w' ⟨rfl, n, rfl⟩
      exact ⟨by rw [hm], by rw [hm, Bool.or_true]; exact ((h.drewN n).setFp u).setFin true, (((Only.refl _ _).drewN _).setCell _ _).setCell _ _⟩

end
end Go.Proofs.Qxb6617322a
