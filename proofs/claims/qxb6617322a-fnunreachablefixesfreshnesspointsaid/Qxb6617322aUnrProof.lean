/-
  FnUnreachableFixesFreshnessPoint (6): the walks joined; the row.
-/
import Derived.Test.Qxb6617322aRows
import Derived.WalkKit
import Derived.WalkLawsBesides
import Derived.ProofKit
import Derived.OpenShut
import Derived.ShutString
import Derived.ChangeOld
import Derived.Below
import Derived.Test.Qxb6617322aLaw6A
import Derived.Test.Qxb6617322aLaw6B
import Derived.Test.Qxb6617322aLaw6C
namespace Go.Proofs.Qxb6617322a.UnrLaw
open Go.ChangeShapes Go.WideShapes Go.ChangeAt Go.RowKit
set_option linter.unusedVariables false

theorem own : ownKnob Try.prog.godebug = none := by kernel_rfl

theorem walk (w : World) (acc fin : Bool) (ex mar fp grace late : Nat) (unr : Bool) (u at_ due : Nat) :
    Calls Try.prog 6 #[.bool acc, .bool fin, .float .f64 ex, .float .f64 mar, .float .f64 fp, .float .f64 grace, .float .f64 late, .bool unr, .float .f64 u, .float .f64 at_, .float .f64 due] w
      fun e w' => e = .returned (.bool true) ∧ Below w.heap.size w w' := by
  cases unr with
  | false =>
    cases acc with
    | false => exact unr6_a_1 w fin ex mar fp grace late u at_ due
    | true =>
      cases fin with
      | true => exact unr6_a_2 w ex mar fp grace late u at_ due
      | false =>
        cases ho : ((FloatKind.f64).format.order at_ fp == some .gt) with
        | false => exact unr6_a_3 w ex mar fp grace late u at_ due ho
        | true =>
          cases hz : ((FloatKind.f64).format.order grace 0 == some .eq) with
          | true => exact unr6_a_4 w ex mar fp grace late u at_ due ho hz
          | false =>
            cases hl : lateB at_ due fp late with
            | false => exact unr6_a_5 w ex mar fp grace late u at_ due ho hz hl
            | true => exact unr6_a_6 w ex mar fp grace late u at_ due ho hz hl
  | true =>
    cases hu : ((FloatKind.f64).format.order u fp == some .lt) with
    | true =>
      cases acc with
      | false => exact unr6_c_1 w fin ex mar fp grace late u at_ due hu
      | true => exact unr6_c_2 w fin ex mar fp grace late u at_ due hu
    | false =>
      cases acc with
      | false => exact unr6_b_1 w fin ex mar fp grace late u at_ due hu
      | true =>
        cases fin with
        | true => exact unr6_b_2 w ex mar fp grace late u at_ due hu
        | false =>
          cases ho : ((FloatKind.f64).format.order at_ fp == some .gt) with
          | false => exact unr6_b_3 w ex mar fp grace late u at_ due hu ho
          | true =>
            cases hz : ((FloatKind.f64).format.order grace 0 == some .eq) with
            | true => exact unr6_b_4 w ex mar fp grace late u at_ due hu ho hz
            | false =>
              cases hl : lateB at_ due fp late with
              | false => exact unr6_b_5 w ex mar fp grace late u at_ due hu ho hz hl
              | true => exact unr6_b_6 w ex mar fp grace late u at_ due hu ho hz hl

set_option maxRecDepth 100000 in
theorem lifted (os : Os) (started : os.Started) (H : Type) (enc : TypeId × Value → H) :
    ReturnsInHanded {} Try.checked os 6 .any (Rows.fnUnreachableFixesFreshnessPointSpec.pre6 enc Try.prog Try.f6 Rows.fnUnreachableFixesFreshnessPointRow.domain false) (Rows.fnUnreachableFixesFreshnessPointSpec.post enc Try.prog Try.f6 false true false false) := by
  refine returnsInHanded_of_change (C := Try.checked) own started (by kernel_rfl) Try.func6
    (ChangeSpec.witness6 (enc := enc) (C := Try.checked) false ⟨#[], #[.bool false, .bool false, .float .f64 0, .float .f64 0, .float .f64 0, .float .f64 0, .float .f64 0, .bool false, .float .f64 0, .float .f64 0, .float .f64 0], []⟩ 8 (by kernel_rfl) (by kernel_rfl) (by kernel_rfl) (by kernel_rfl)) ?_
  intro W base args ds gs before hval0 hW hcnd _
  have hval : ∀ (j : Nat) t v, Try.f6.params[j]? = some t → args[j]? = some v → Value.okWide Try.prog W .any base t v := hval0
  have hW' := hW
  obtain ⟨p, q, hA0, hV, rfl, hfz, hnd⟩ := hW
  have hA : DataW.TrodAll enc Try.prog W 0 (fun _ => true) true Try.f6.params.toList args.toList ds p := hA0
  rw [Try.params6] at hA hval
  obtain ⟨v0, vs0, d0, ds0, p0, q0, hargs, rfl, rfl, h0, r0⟩ := trodAll_cons hA
  obtain ⟨v1, vs1, d1, ds1, p1, q1, rfl, rfl, rfl, h1, r1⟩ := trodAll_cons r0
  obtain ⟨v2, vs2, d2, ds2, p2, q2, rfl, rfl, rfl, h2, r2⟩ := trodAll_cons r1
  obtain ⟨v3, vs3, d3, ds3, p3, q3, rfl, rfl, rfl, h3, r3⟩ := trodAll_cons r2
  obtain ⟨v4, vs4, d4, ds4, p4, q4, rfl, rfl, rfl, h4, r4⟩ := trodAll_cons r3
  obtain ⟨v5, vs5, d5, ds5, p5, q5, rfl, rfl, rfl, h5, r5⟩ := trodAll_cons r4
  obtain ⟨v6, vs6, d6, ds6, p6, q6, rfl, rfl, rfl, h6, r6⟩ := trodAll_cons r5
  obtain ⟨v7, vs7, d7, ds7, p7, q7, rfl, rfl, rfl, h7, r7⟩ := trodAll_cons r6
  obtain ⟨v8, vs8, d8, ds8, p8, q8, rfl, rfl, rfl, h8, r8⟩ := trodAll_cons r7
  obtain ⟨v9, vs9, d9, ds9, p9, q9, rfl, rfl, rfl, h9, r9⟩ := trodAll_cons r8
  obtain ⟨v10, vs10, d10, ds10, p10, q10, rfl, rfl, rfl, h10, r10⟩ := trodAll_cons r9
  obtain ⟨rfl, rfl, rfl⟩ := trodAll_nil r10
  obtain rfl : args = #[v0, v1, v2, v3, v4, v5, v6, v7, v8, v9, v10] := by cases args; simp_all
  obtain ⟨rfl, rfl⟩ := trodVars_none hV
  obtain ⟨a0, rfl, rfl, rfl⟩ := open_bool Try.underlying4 (hval 0 4 v0 rfl rfl) h0
  obtain ⟨a1, rfl, rfl, rfl⟩ := open_bool Try.underlying4 (hval 1 4 v1 rfl rfl) h1
  obtain ⟨a2, rfl, rfl, rfl, w2⟩ := open_float Try.underlying22 (hval 2 22 v2 rfl rfl) h2
  obtain ⟨a3, rfl, rfl, rfl, w3⟩ := open_float Try.underlying22 (hval 3 22 v3 rfl rfl) h3
  obtain ⟨a4, rfl, rfl, rfl, w4⟩ := open_float Try.underlying22 (hval 4 22 v4 rfl rfl) h4
  obtain ⟨a5, rfl, rfl, rfl, w5⟩ := open_float Try.underlying22 (hval 5 22 v5 rfl rfl) h5
  obtain ⟨a6, rfl, rfl, rfl, w6⟩ := open_float Try.underlying22 (hval 6 22 v6 rfl rfl) h6
  obtain ⟨a7, rfl, rfl, rfl⟩ := open_bool Try.underlying4 (hval 7 4 v7 rfl rfl) h7
  obtain ⟨a8, rfl, rfl, rfl, w8⟩ := open_float Try.underlying22 (hval 8 22 v8 rfl rfl) h8
  obtain ⟨a9, rfl, rfl, rfl, w9⟩ := open_float Try.underlying22 (hval 9 22 v9 rfl rfl) h9
  obtain ⟨a10, rfl, rfl, rfl, w10⟩ := open_float Try.underlying22 (hval 10 22 v10 rfl rfl) h10
  clear hA0 hval0
  refine (walk W a0 a1 a2 a3 a4 a5 a6 a7 a8 a9 a10).mono fun e W' ⟨he, bel⟩ => ?_
  subst he
  exact ⟨_, rfl, _, _, _, [], _, [], hW', trodAll_mk1 (shut_bool Try.underlying4 _), (trodAll_cons_mk (shut_bool Try.underlying4 _) (trodAll_cons_mk (shut_bool Try.underlying4 _) (trodAll_cons_mk (shut_float Try.underlying22 w2) (trodAll_cons_mk (shut_float Try.underlying22 w3) (trodAll_cons_mk (shut_float Try.underlying22 w4) (trodAll_cons_mk (shut_float Try.underlying22 w5) (trodAll_cons_mk (shut_float Try.underlying22 w6) (trodAll_cons_mk (shut_bool Try.underlying4 _) (trodAll_cons_mk (shut_float Try.underlying22 w8) (trodAll_cons_mk (shut_float Try.underlying22 w9) (trodAll_cons_mk (shut_float Try.underlying22 w10) trodAll_mk0))))))))))), rfl, bel.frame _, fun h => by cases h⟩

theorem over : Rows.fnUnreachableFixesFreshnessPointRow.holds Try.pinned (OpenSpec.ofChange Rows.fnUnreachableFixesFreshnessPointSpec) :=
  OpenClaim.holds_of_wide 6 Try.f6 rfl rfl rfl rfl rfl rfl rfl ⟨rfl, rfl, rfl, rfl, rfl⟩ rfl rfl rfl rfl rfl (by kernel_rfl) Try.func6 (by kernel_rfl)
    (of_decide_eq_true (by kernel_rfl)) (by unfold Func.isWrapper; first | (rw [if_pos (by decide +kernel)]; kernel_rfl) | (rw [if_neg (by decide +kernel)]; exact ⟨rfl, rfl⟩))
    (fun os started H enc _ => lifted os started H enc)

/-- THE STATEMENT. -/
theorem proved : Rows.FnUnreachableFixesFreshnessPointSaid := over
end Go.Proofs.Qxb6617322a.UnrLaw
