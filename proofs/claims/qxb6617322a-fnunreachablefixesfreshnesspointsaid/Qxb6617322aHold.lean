/-
  PLAIN FACTS FOR THE LOOK: the lesser of two floats, and the time that an observer was held back. No Go function of the program in sight.
-/
import Derived.Test.Qxb6617322aFloat
namespace Go.Proofs.Qxb6617322a.Fl
open Go

theorem order_same {x y : Nat} (h : Same x y) (z : Nat) : (FloatKind.f64).format.order x z = (FloatKind.f64).format.order y z := by
  rcases h with rfl | ⟨h1, h2⟩
  · rfl
  · rw [isNaN_order h1, isNaN_order h2]

/-- What Go's min gives in the world w, and how many draws it takes. -/
def fmin (w : World) (x y : Nat) : Nat :=
  match (FloatKind.f64).format.order x y with
  | none => Question.cut (.nanMinMax .f64 false x y) (w.tape w.drawn (.nanMinMax .f64 false x y))
  | some .lt => x
  | some .gt => y
  | some .eq => if ((FloatKind.f64).decode x).neg then x else y
def fmd (x y : Nat) : Nat := if ((FloatKind.f64).format.order x y).isSome then 0 else 1

theorem cutm_isNaN (x y t : Nat) : isNaN (Question.cut (.nanMinMax .f64 false x y) t) = true := cut_isNaN x y t

theorem run_fmin {P : Program} (w : World) (ts : Array TypeId) (t : TypeId) (x y : Nat) :
    (Builtin.min_ ts t #[.float .f64 x, .float .f64 y]).run P w = .ok (.float .f64 (fmin w x y)) (w.drewN (fmd x y)) := by
  unfold Builtin.min_ fmin fmd
  have hf : (Question.nanMinMax .f64 false x y).forced = false := rfl
  cases h : (FloatKind.f64).format.order x y with
  | none => simp [Builtin.min2, h, choose, Sem.run, hf, World.drewN]
  | some o => cases o <;> simp [Builtin.min2, h, World.drewN_zero]

/-- The earlier of the two, as the law's own helper takes it. -/
def earl (due fp : Nat) : Nat := if ((FloatKind.f64).format.order fp due == some .lt) = true then fp else due

/-! ### the two orders -/
theorem cmp_swap (a b : Int) : compare b a = (compare a b).swap := by
  simp only [compare, compareOfLessAndEq]
  split <;> split <;> (try split) <;> (try split) <;> first | rfl | omega
theorem cmp_swap_nat (a b : Nat) : compare b a = (compare a b).swap := by
  simp only [compare, compareOfLessAndEq]
  split <;> split <;> (try split) <;> (try split) <;> first | rfl | omega

theorem order_swap (d e : Ieee.Datum) : e.order d = (d.order e).map Ordering.swap := by
  cases d with
  | nan => cases e <;> rfl
  | infinity s =>
    cases e with
    | nan => rfl
    | infinity t => simp only [Ieee.Datum.order, Option.map_some]; rw [cmp_swap_nat]
    | number t n j => cases s <;> rfl
  | number s m i =>
    cases e with
    | nan => rfl
    | infinity t => cases t <;> rfl
    | number t n j =>
      simp only [Ieee.Datum.order, Option.map_some]
      rw [Int.min_comm j i, cmp_swap]

/-! ### equal words that are numbers differ by the sign of a nought alone -/
theorem cmp_eq {a b : Int} (h : compare a b = .eq) : a = b := by
  simp only [compare, compareOfLessAndEq] at h
  split at h
  · cases h
  · split at h
    · assumption
    · cases h
theorem cmp_eq_nat {a b : Nat} (h : compare a b = .eq) : a = b := by
  simp only [compare, compareOfLessAndEq] at h
  split at h
  · cases h
  · split at h
    · assumption
    · cases h

/-- A number as a word of the format gives it: a whole significand, or the least place. -/
def Norm (m : Nat) (i : Int) : Prop := m < 9007199254740992 ∧ -1074 ≤ i ∧ (i ≠ -1074 → 4503599627370496 ≤ m)

theorem read_norm (x : Nat) : ∀ s m i, (FloatKind.f64).format.read x = .number s m i → Norm m i := by
  intro s m i h
  have hsw : (FloatKind.f64).format.signWeight = 9223372036854775808 := by decide +kernel
  have hinf : (FloatKind.f64).format.infRung = 9218868437227405312 := by decide +kernel
  have hbin : (FloatKind.f64).format.binade = 4503599627370496 := by decide +kernel
  have hlp : (FloatKind.f64).format.leastPlace = -1074 := by decide +kernel
  unfold Ieee.Format.read at h
  rw [hsw, hinf, hbin, hlp] at h
  simp only at h
  unfold Norm
  split at h
  · simp only [Ieee.Datum.number.injEq] at h
    omega
  · split at h
    · simp only [Ieee.Datum.number.injEq] at h
      omega
    · split at h <;> cases h

theorem shl_eq (m k : Nat) : m <<< k = m * 2 ^ k := Nat.shiftLeft_eq m k

theorem norm_unique {m n : Nat} {i j : Int} (hm : Norm m i) (hn : Norm n j) (h : m * 2 ^ (i - min i j).toNat = n * 2 ^ (j - min i j).toNat) : (m = n ∧ i = j) ∨ (m = 0 ∧ n = 0) := by
  unfold Norm at hm hn
  rcases Int.lt_trichotomy i j with hij | hij | hij
  · rw [show min i j = i by omega, show (i - i).toNat = 0 by omega] at h
    have h4 := hn.2.2 (by omega)
    obtain ⟨d, hd⟩ : ∃ d, (j - i).toNat = d + 1 := ⟨(j - i).toNat - 1, by omega⟩
    rw [hd, Nat.pow_succ] at h
    have : 0 < 2 ^ d := Nat.two_pow_pos d
    have h5 : n * (1 * 2) ≤ n * (2 ^ d * 2) := Nat.mul_le_mul_left _ (Nat.mul_le_mul_right _ this)
    omega
  · subst hij
    rw [show min i i = i by omega, show (i - i).toNat = 0 by omega] at h
    left
    omega
  · rw [show min i j = j by omega, show (j - j).toNat = 0 by omega] at h
    have h4 := hm.2.2 (by omega)
    obtain ⟨d, hd⟩ : ∃ d, (i - j).toNat = d + 1 := ⟨(i - j).toNat - 1, by omega⟩
    rw [hd, Nat.pow_succ] at h
    have : 0 < 2 ^ d := Nat.two_pow_pos d
    have h5 : m * (1 * 2) ≤ m * (2 ^ d * 2) := Nat.mul_le_mul_left _ (Nat.mul_le_mul_right _ this)
    omega

theorem signed_zero (s : Bool) (k : Nat) : Ieee.signed s 0 k = 0 := by
  unfold Ieee.signed
  rw [shl_eq]
  simp
theorem signed_mag {s t : Bool} {m n k l : Nat} (h : Ieee.signed s m k = Ieee.signed t n l) : m * 2 ^ k = n * 2 ^ l ∧ (s = t ∨ m * 2 ^ k = 0) := by
  unfold Ieee.signed at h
  rw [shl_eq, shl_eq] at h
  cases s <;> cases t <;> simp only [Bool.false_eq_true, if_false, if_true] at h
  · exact ⟨by omega, .inl rfl⟩
  · exact ⟨by omega, .inr (by omega)⟩
  · exact ⟨by omega, .inr (by omega)⟩
  · exact ⟨by omega, .inl rfl⟩

/-- If due and fp are equal as numbers and at lies behind fp, at less the one is at less the other. -/
theorem sub_eq_of {at_ due fp : Nat} (he : (FloatKind.f64).format.order due fp = some .eq) (hg : (FloatKind.f64).format.order at_ fp = some .gt) : (FloatKind.f64).format.sub at_ due = (FloatKind.f64).format.sub at_ fp := by
  unfold Ieee.Format.order at he hg
  unfold Ieee.Format.sub
  have nd := read_norm due
  have nf := read_norm fp
  generalize (FloatKind.f64).format.read due = d at *
  generalize (FloatKind.f64).format.read fp = f at *
  generalize (FloatKind.f64).format.read at_ = a at *
  cases d with
  | nan => cases f <;> simp [Ieee.Datum.order] at he
  | infinity s =>
    cases f with
    | nan => simp [Ieee.Datum.order] at he
    | number t n j => cases s <;> simp [Ieee.Datum.order] at he
    | infinity t =>
      simp only [Ieee.Datum.order, Option.some.injEq] at he
      have := cmp_eq_nat he
      cases s <;> cases t <;> first | rfl | (simp at this)
  | number s m i =>
    cases f with
    | nan => simp [Ieee.Datum.order] at he
    | infinity t => cases t <;> simp [Ieee.Datum.order] at he
    | number t n j =>
      simp only [Ieee.Datum.order, Option.some.injEq] at he
      have h1 := cmp_eq he
      obtain ⟨h2, h3⟩ := signed_mag h1
      have hm := nd s m i rfl
      have hn := nf t n j rfl
      rcases norm_unique hm hn h2 with ⟨rfl, rfl⟩ | ⟨rfl, rfl⟩
      · rcases h3 with rfl | h3
        · rfl
        · have hz : m = 0 := by
            rcases Nat.mul_eq_zero.1 h3 with h | h
            · exact h
            · have := Nat.two_pow_pos (i - min i i).toNat; omega
          subst hz
          cases a with
          | nan => rfl
          | infinity u => rfl
          | number u p k =>
            simp only [Ieee.Datum.opposite, Ieee.Datum.sum, signed_zero, Int.add_zero, Option.map_some]
            simp only [Ieee.Datum.order, signed_zero, Option.some.injEq] at hg
            have hne : Ieee.signed u p (k - min k i).toNat ≠ 0 := by
              intro e; rw [e] at hg; simp [compare, compareOfLessAndEq] at hg
            rw [if_neg hne, if_neg hne]
      · have hi : i = -1074 := by have := hm.2.2; omega
        have hj : j = -1074 := by have := hn.2.2; omega
        subst hi hj
        cases a with
        | nan => rfl
        | infinity u => rfl
        | number u p k =>
          simp only [Ieee.Datum.opposite, Ieee.Datum.sum, signed_zero, Int.add_zero, Option.map_some]
          simp only [Ieee.Datum.order, signed_zero, Option.some.injEq] at hg
          have hne : Ieee.signed u p (k - min k (-1074)).toNat ≠ 0 := by
            intro e; rw [e] at hg; simp [compare, compareOfLessAndEq] at hg
          rw [if_neg hne, if_neg hne]

theorem order_some_notNaN {x y : Nat} {o : Ordering} (h : (FloatKind.f64).format.order x y = some o) : isNaN x = false ∧ isNaN y = false := by
  constructor
  · cases hx : isNaN x
    · rfl
    · rw [isNaN_order hx] at h; cases h
  · unfold Ieee.Format.order at h
    unfold isNaN
    cases hy : ((FloatKind.f64).format.read y).isNaN
    · rfl
    · generalize (FloatKind.f64).format.read y = e at *
      generalize (FloatKind.f64).format.read x = d at *
      cases e <;> simp [Ieee.Datum.isNaN] at hy
      cases d <;> simp [Ieee.Datum.order] at h

theorem order_none {x y : Nat} (h : (FloatKind.f64).format.order x y = none) : isNaN x = true ∨ isNaN y = true := by
  unfold Ieee.Format.order at h
  unfold isNaN
  generalize (FloatKind.f64).format.read y = e at *
  generalize (FloatKind.f64).format.read x = d at *
  cases d <;> cases e <;> simp [Ieee.Datum.order, Ieee.Datum.isNaN] at h ⊢

/-- What the detector reckons is what the law's helper reckons. -/
theorem held_same (w w' : World) {at_ due fp : Nat} (hg : (FloatKind.f64).format.order at_ fp = some .gt) : Same (fop .sub w' at_ (fmin w due fp)) (subC at_ (earl due fp)) := by
  have hs : (FloatKind.f64).format.order fp due = ((FloatKind.f64).format.order due fp).map Ordering.swap := order_swap _ _
  cases ho : (FloatKind.f64).format.order due fp with
  | none =>
    rw [ho] at hs
    have e1 : earl due fp = due := by unfold earl; rw [hs]; rfl
    have e2 : fmin w due fp = Question.cut (.nanMinMax .f64 false due fp) (w.tape w.drawn (.nanMinMax .f64 false due fp)) := by unfold fmin; rw [ho]
    rw [e1, e2]
    refine fsub_same _ (Same.refl _) (.inr ⟨cutm_isNaN _ _ _, ?_⟩)
    rcases order_none ho with h | h
    · exact h
    · rw [(order_some_notNaN hg).2] at h; cases h
  | some o =>
    rw [ho] at hs
    cases o with
    | lt =>
      have e1 : earl due fp = due := by unfold earl; rw [hs]; rfl
      have e2 : fmin w due fp = due := by unfold fmin; rw [ho]
      rw [e1, e2]
      exact fsub_same _ (Same.refl _) (Same.refl _)
    | gt =>
      have e1 : earl due fp = fp := by unfold earl; rw [hs]; rfl
      have e2 : fmin w due fp = fp := by unfold fmin; rw [ho]
      rw [e1, e2]
      exact fsub_same _ (Same.refl _) (Same.refl _)
    | eq =>
      have e1 : earl due fp = due := by unfold earl; rw [hs]; rfl
      have e2 : fmin w due fp = if ((FloatKind.f64).decode due).neg then due else fp := by unfold fmin; rw [ho]
      rw [e1, e2]
      split
      · exact fsub_same _ (Same.refl _) (Same.refl _)
      · have e3 : subC at_ due = subC at_ fp := by
          unfold subC opC
          show ((FloatKind.f64).format.sub at_ due).getD qnan = ((FloatKind.f64).format.sub at_ fp).getD qnan
          rw [sub_eq_of ho hg]
        rw [e3]
        exact fsub_same _ (Same.refl _) (Same.refl _)

end Go.Proofs.Qxb6617322a.Fl
