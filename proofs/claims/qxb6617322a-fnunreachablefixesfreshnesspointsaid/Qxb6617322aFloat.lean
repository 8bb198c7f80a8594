/-
  PLAIN FACTS ON FLOATS FOR THIS SEAT: no Go function of the program in sight.
  An invalid operation (a NaN among the operands, inf - inf, ..) gives a NaN whose bits the tape fixes. 'Same': one word, or two NaNs.
-/
import Derived.WalkKit
import Derived.WalkLawsBesides
import Derived.Deep.Draws
namespace Go.Proofs.Qxb6617322a.Fl
open Go

def isNaN (x : Nat) : Bool := ((FloatKind.f64).format.read x).isNaN

def Same (x y : Nat) : Prop := x = y ∨ (isNaN x = true ∧ isNaN y = true)

theorem Same.refl (x : Nat) : Same x x := .inl rfl

theorem isNaN_order {x y : Nat} (h : isNaN x = true) : (FloatKind.f64).format.order x y = none := by
  unfold isNaN at h
  unfold Ieee.Format.order
  generalize (FloatKind.f64).format.read x = d at h ⊢
  cases d <;> simp [Ieee.Datum.isNaN] at h ⊢
  cases (FloatKind.f64).format.read y <;> rfl

theorem not_isNaN_order {x : Nat} (h : isNaN x = false) : (FloatKind.f64).format.order x x = some .eq := by
  unfold isNaN at h
  unfold Ieee.Format.order
  generalize (FloatKind.f64).format.read x = d at h ⊢
  cases d <;> simp [Ieee.Datum.isNaN, Ieee.Datum.order] at h ⊢

/-- What the Go helper zzSame answers, as a Bool of the two words. -/
def sameB (x y : Nat) : Bool := ((FloatKind.f64).format.order x y == some .eq) || (((FloatKind.f64).format.order x x != some .eq) && ((FloatKind.f64).format.order y y != some .eq))

theorem sameB_of {x y : Nat} (h : Same x y) : sameB x y = true := by
  unfold sameB
  rcases h with rfl | ⟨h1, h2⟩
  · cases hx : isNaN x
    · rw [not_isNaN_order hx]; rfl
    · rw [isNaN_order hx]; rfl
  · rw [isNaN_order h1, isNaN_order h1, isNaN_order h2]; rfl

/-- One fixed NaN. -/
def qnan : Nat := 0x7ff8000000000001

theorem qnan_isNaN : isNaN qnan = true := by decide +kernel

theorem cut_isNaN (x y t : Nat) : isNaN (Question.cut (.nanBits .f64 x y) t) = true := by
  have e : Question.cut (.nanBits .f64 x y) t = (t % 2) * 2 ^ 63 + 0x7ff0000000000000 + 1 + (t / 2) % (2 ^ 52 - 1) := rfl
  rw [e]
  unfold isNaN
  have hsw : (FloatKind.f64).format.signWeight = 9223372036854775808 := by decide +kernel
  have hinf : (FloatKind.f64).format.infRung = 9218868437227405312 := by decide +kernel
  have hbin : (FloatKind.f64).format.binade = 4503599627370496 := by decide +kernel
  unfold Ieee.Format.read
  rw [hsw, hinf, hbin]
  have h2 : (t % 2) * 2 ^ 63 + 0x7ff0000000000000 + 1 + (t / 2) % (2 ^ 52 - 1) = (t % 2) * 9223372036854775808 + 9218868437227405312 + 1 + (t / 2) % 4503599627370495 := rfl
  rw [h2]
  have hr : ((t % 2) * 9223372036854775808 + 9218868437227405312 + 1 + (t / 2) % 4503599627370495) % 9223372036854775808 = 9218868437227405312 + 1 + (t / 2) % 4503599627370495 := by omega
  rw [hr]
  simp only
  rw [if_neg (by omega), if_neg (by omega), if_neg (by omega)]
  rfl

/-- The canonical result of an operation: a fixed NaN where it is invalid. -/
def opC (op : BinOp) (x y : Nat) : Nat := (floatBits op .f64 x y).getD qnan
def addC (x y : Nat) : Nat := opC .add x y
def subC (x y : Nat) : Nat := opC .sub x y
def mulC (x y : Nat) : Nat := opC .mul x y

/-- What an operation gives in the world w: the valid result, or the NaN that the tape fixes. -/
def fop (op : BinOp) (w : World) (x y : Nat) : Nat := (floatBits op .f64 x y).getD (Question.cut (.nanBits .f64 x y) (w.tape w.drawn (.nanBits .f64 x y)))
/-- How many draws it takes. -/
def fdr (op : BinOp) (x y : Nat) : Nat := if (floatBits op .f64 x y).isSome then 0 else 1

section
variable {P : Program} (w : World)
theorem run_fop (op : BinOp) (hop : op = .add ∨ op = .sub ∨ op = .mul) (t : TypeId) (x y : Nat) :
    (binOp op t (.float .f64 x) (.float .f64 y)).run P w = .ok (.float .f64 (fop op w x y)) (w.drewN (fdr op x y)) := by
  cases hb : floatBits op .f64 x y with
  | some r =>
    rw [run_float_arith w op t .f64 x y r hb]
    simp [fop, fdr, hb, World.drewN_zero]
  | none =>
    have hf : (Question.nanBits .f64 x y).forced = false := rfl
    rcases hop with rfl | rfl | rfl <;> simp only [floatBits] at hb <;>
      simp [binOp, Op.floatArith, hb, fop, fdr, floatBits, choose, Sem.run, hf, World.drewN]
theorem run_fadd (t : TypeId) (x y : Nat) : (binOp .add t (.float .f64 x) (.float .f64 y)).run P w = .ok (.float .f64 (fop .add w x y)) (w.drewN (fdr .add x y)) := run_fop w .add (.inl rfl) t x y
theorem run_fsub (t : TypeId) (x y : Nat) : (binOp .sub t (.float .f64 x) (.float .f64 y)).run P w = .ok (.float .f64 (fop .sub w x y)) (w.drewN (fdr .sub x y)) := run_fop w .sub (.inr (.inl rfl)) t x y
theorem run_fmul (t : TypeId) (x y : Nat) : (binOp .mul t (.float .f64 x) (.float .f64 y)).run P w = .ok (.float .f64 (fop .mul w x y)) (w.drewN (fdr .mul x y)) := run_fop w .mul (.inr (.inr rfl)) t x y
/-- A float stored into a cell (the kit has the like for integers, bools, pointers, slices, strings). -/
theorem run_store_float (a : Addr) (m : Mode) (k : FloatKind) (x : Nat) : (store a (.float k x) m).run P w = stored P w a (.float k x) m := run_store P w a _ m rfl
end

theorem nan_sum_l {d e : Ieee.Datum} (h : d.isNaN = true) : d.sum e = none := by
  cases d <;> simp [Ieee.Datum.isNaN] at h
  cases e <;> rfl
theorem nan_sum_r {d e : Ieee.Datum} (h : e.isNaN = true) : d.sum e = none := by
  cases e <;> simp [Ieee.Datum.isNaN] at h
  cases d <;> rfl
theorem nan_product_l {d e : Ieee.Datum} (h : d.isNaN = true) : d.product e = none := by
  cases d <;> simp [Ieee.Datum.isNaN] at h
  cases e <;> rfl
theorem nan_product_r {d e : Ieee.Datum} (h : e.isNaN = true) : d.product e = none := by
  cases e <;> simp [Ieee.Datum.isNaN] at h
  cases d <;> rfl
theorem nan_opposite {d : Ieee.Datum} (h : d.isNaN = true) : d.opposite.isNaN = true := by
  cases d <;> simp [Ieee.Datum.isNaN] at h
  rfl

theorem bits_nan_l {op : BinOp} (hop : op = .add ∨ op = .sub ∨ op = .mul) {x : Nat} (y : Nat) (h : isNaN x = true) : floatBits op .f64 x y = none := by
  unfold isNaN at h
  rcases hop with rfl | rfl | rfl
  · show ((_ : Ieee.Datum).sum _).map _ = none; rw [nan_sum_l h]; rfl
  · show ((_ : Ieee.Datum).sum _).map _ = none; rw [nan_sum_l h]; rfl
  · show ((_ : Ieee.Datum).product _).map _ = none; rw [nan_product_l h]; rfl
theorem bits_nan_r {op : BinOp} (hop : op = .add ∨ op = .sub ∨ op = .mul) (x : Nat) {y : Nat} (h : isNaN y = true) : floatBits op .f64 x y = none := by
  unfold isNaN at h
  rcases hop with rfl | rfl | rfl
  · show ((_ : Ieee.Datum).sum _).map _ = none; rw [nan_sum_r h]; rfl
  · show ((_ : Ieee.Datum).sum _).map _ = none; rw [nan_sum_r (nan_opposite h)]; rfl
  · show ((_ : Ieee.Datum).product _).map _ = none; rw [nan_product_r h]; rfl

/-- What the machine gives on words that are the same as x', y' is the same as the canonical result at x', y'. -/
theorem fop_same {op : BinOp} (hop : op = .add ∨ op = .sub ∨ op = .mul) (w : World) {x y x' y' : Nat} (hx : Same x x') (hy : Same y y') : Same (fop op w x y) (opC op x' y') := by
  unfold fop opC
  have nn : floatBits op .f64 x y = none → floatBits op .f64 x' y' = none →
      Same ((floatBits op .f64 x y).getD (Question.cut (.nanBits .f64 x y) (w.tape w.drawn (.nanBits .f64 x y)))) ((floatBits op .f64 x' y').getD qnan) := by
    intro h1 h2
    rw [h1, h2]
    exact .inr ⟨cut_isNaN x y _, qnan_isNaN⟩
  rcases hx with rfl | ⟨h1, h2⟩
  · rcases hy with rfl | ⟨h3, h4⟩
    · cases hb : floatBits op .f64 x y with
      | some r => exact .inl rfl
      | none => exact .inr ⟨cut_isNaN x y _, qnan_isNaN⟩
    · exact nn (bits_nan_r hop _ h3) (bits_nan_r hop _ h4)
  · exact nn (bits_nan_l hop _ h1) (bits_nan_l hop _ h2)

theorem fadd_same (w : World) {x y x' y' : Nat} (hx : Same x x') (hy : Same y y') : Same (fop .add w x y) (addC x' y') := fop_same (.inl rfl) w hx hy
theorem fsub_same (w : World) {x y x' y' : Nat} (hx : Same x x') (hy : Same y y') : Same (fop .sub w x y) (subC x' y') := fop_same (.inr (.inl rfl)) w hx hy
theorem fmul_same (w : World) {x y x' y' : Nat} (hx : Same x x') (hy : Same y y') : Same (fop .mul w x y) (mulC x' y') := fop_same (.inr (.inr rfl)) w hx hy

theorem Same.symm {x y : Nat} (h : Same x y) : Same y x := by
  rcases h with h | ⟨h1, h2⟩
  · exact .inl h.symm
  · exact .inr ⟨h2, h1⟩
theorem Same.trans {x y z : Nat} (h : Same x y) (k : Same y z) : Same x z := by
  rcases h with rfl | ⟨h1, h2⟩
  · exact k
  · rcases k with rfl | ⟨h3, h4⟩
    · exact .inr ⟨h1, h2⟩
    · exact .inr ⟨h1, h4⟩

end Go.Proofs.Qxb6617322a.Fl
