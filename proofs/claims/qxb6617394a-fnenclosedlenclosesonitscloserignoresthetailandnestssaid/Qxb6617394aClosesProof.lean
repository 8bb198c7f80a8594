/-
  FnEnclosedLenClosesOnItsCloserIgnoresTheTailAndNests (4): the ways out ahead of the work; the walks joined; the row (the frame: the given shell's).
-/
import Derived.Test.Qxb6617394aRows
import Derived.WalkKit
import Derived.ProofKit
import Derived.OpenShut
import Derived.ShutString
import Derived.Test.Qxb6617394aCloses
namespace Go.Proofs.Qxb6617394a.fnEnclosedLenClosesOnItsCloserIgnoresTheTailAndNests
open Go.ChangeShapes Go.WideShapes Go.ChangeAt Go.RowKit
open Go.ChangeMaps (open_string shut_string)
set_option linter.unusedVariables false      -- a walk need not use every 'w<i>' (that an integer argument fits its kind)

theorem own : ownKnob Try.prog.godebug = none := by kernel_rfl

set_option maxRecDepth 100000 in
theorem out1 (s t : ByteArray) (w : World) (h1 : 1048576 < s.size) :
    Calls Try.prog 4 #[.string s, .string t] w fun e w' => e = .returned (.bool true) ∧ w' = w := by
  go_enter Try.func4, Try.ntmps4
  go_wp2
  go_ret
  exact ⟨rfl, rfl⟩

set_option maxRecDepth 100000 in
theorem out2 (s t : ByteArray) (w : World) (h1 : s.size ≤ 1048576) (h2 : 1048576 < t.size) :
    Calls Try.prog 4 #[.string s, .string t] w fun e w' => e = .returned (.bool true) ∧ w' = w := by
  go_enter Try.func4, Try.ntmps4
  go_wp2
  go_ret
  exact ⟨rfl, rfl⟩

set_option maxRecDepth 100000 in
theorem out3 (s t : ByteArray) (w : World) (h1 : s.size ≤ 1048576) (h2 : t.size ≤ 1048576) (h3 : 1048576 < s.size + t.size) :
    Calls Try.prog 4 #[.string s, .string t] w fun e w' => e = .returned (.bool true) ∧ w' = w := by
  go_enter Try.func4, Try.ntmps4
  go_wp2
  go_ret
  exact ⟨rfl, rfl⟩

set_option maxRecDepth 100000 in
theorem out4 (s t : ByteArray) (w : World) (h2 : t.size ≤ 1048576) (h3 : s.size + t.size ≤ 1048576) (h4 : 524288 < s.size) :
    Calls Try.prog 4 #[.string s, .string t] w fun e w' => e = .returned (.bool true) ∧ w' = w := by
  go_enter Try.func4, Try.ntmps4
  go_wp2
  go_ret
  exact ⟨rfl, rfl⟩

set_option maxRecDepth 100000 in
theorem out5 (s t : ByteArray) (w : World) (h3 : s.size + t.size ≤ 1048576) (h4 : s.size ≤ 524288) (h5 : 524288 < t.size) :
    Calls Try.prog 4 #[.string s, .string t] w fun e w' => e = .returned (.bool true) ∧ w' = w := by
  go_enter Try.func4, Try.ntmps4
  go_wp2
  go_ret
  exact ⟨rfl, rfl⟩

set_option maxRecDepth 100000 in
theorem out6 (s t : ByteArray) (w : World) (h4 : s.size ≤ 524288) (h5 : t.size ≤ 524288) (h6 : ((s.size : Int) == 0) = true) :
    Calls Try.prog 4 #[.string s, .string t] w fun e w' => e = .returned (.bool true) ∧ w' = w := by
  go_enter Try.func4, Try.ntmps4
  go_wp2_with fail
  refine (zz8_any s t w h4 h5).mono ?_
  rintro e w' ⟨rfl, hw⟩
  subst hw
  go_wp2_with fail
  go_ret
  exact ⟨rfl, rfl⟩

set_option maxRecDepth 100000 in
theorem out7 (s t : ByteArray) (w : World) (h4 : s.size ≤ 524288) (h5 : t.size ≤ 524288) (hp : 0 < s.size) (a1 : byt s 0 ≠ 34) (a2 : byt s 0 ≠ 40) :
    Calls Try.prog 4 #[.string s, .string t] w fun e w' => e = .returned (.bool true) ∧ w' = w := by
  have z0 : ((s.size : Int) == 0) = false := by
    cases hz : ((s.size : Int) == 0)
    · rfl
    · have : (s.size : Int) = 0 := by simpa using hz
      omega
  have b1 : (((s[0]'hp).toNat : Int) != 34) = true := by rw [← byt_at hp]; simp; omega
  have b2 : (((s[0]'hp).toNat : Int) != 40) = true := by rw [← byt_at hp]; simp; omega
  clear a1 a2
  go_enter Try.func4, Try.ntmps4
  go_wp2_with fail
  refine (zz8_any s t w h4 h5).mono ?_
  rintro e w' ⟨rfl, hw⟩
  subst hw
  go_wp2_with fail
  go_ret
  exact ⟨rfl, rfl⟩

theorem main (s t : ByteArray) (w : World) (q : Bool) (h1 : 1 ≤ s.size) (h2 : s.size ≤ 524288) (h3 : t.size ≤ 524288) (hq : if q = true then byt s 0 = 34 else byt s 0 = 40) :
    Calls Try.prog 4 #[.string s, .string t] w fun e w' => e = .returned (.bool true) ∧ w' = w := by
  obtain ⟨r, b, hR⟩ : ∃ r b, enc q (byt s) s.size s.size 0 0 = (r, b) := ⟨_, _, rfl⟩
  cases b with
  | false =>
    have hr := enc_open _ _ _ _ hR
    rw [hr] at hR
    exact closes_open s t w q h1 h2 h3 hq hR
  | true =>
    cases q with
    | true => exact closes_q s t w r h1 h2 h3 (by simpa using hq) hR
    | false => exact closes_c s t w r h1 h2 h3 (by simpa using hq) hR

theorem walk (a0 : ByteArray) (a1 : ByteArray) (w0 : a0.size ≤ maxLen) (w1 : a1.size ≤ maxLen) (w : World) :
    Calls Try.prog 4 #[.string a0, .string a1] w fun e w' => e = .returned (.bool true) ∧ Grown w w' := by
  have same : ∀ {e : Ending} {w' : World}, e = .returned (.bool true) ∧ w' = w → e = .returned (.bool true) ∧ Grown w w' := by
    rintro e w' ⟨rfl, rfl⟩
    exact ⟨rfl, Grown.refl _⟩
  by_cases h1 : 1048576 < a0.size
  · exact (out1 a0 a1 w h1).mono fun _ _ h => same h
  by_cases h2 : 1048576 < a1.size
  · exact (out2 a0 a1 w (by omega) h2).mono fun _ _ h => same h
  by_cases h3 : 1048576 < a0.size + a1.size
  · exact (out3 a0 a1 w (by omega) (by omega) h3).mono fun _ _ h => same h
  by_cases h4 : 524288 < a0.size
  · exact (out4 a0 a1 w (by omega) (by omega) h4).mono fun _ _ h => same h
  by_cases h5 : 524288 < a1.size
  · exact (out5 a0 a1 w (by omega) (by omega) h5).mono fun _ _ h => same h
  by_cases h6 : a0.size = 0
  · exact (out6 a0 a1 w (by omega) (by omega) (by rw [h6]; rfl)).mono fun _ _ h => same h
  by_cases h7 : byt a0 0 = 34
  · exact (main a0 a1 w true (by omega) (by omega) (by omega) (by rw [if_pos rfl]; exact h7)).mono fun _ _ h => same h
  by_cases h8 : byt a0 0 = 40
  · exact (main a0 a1 w false (by omega) (by omega) (by omega) (by rw [if_neg Bool.false_ne_true]; exact h8)).mono fun _ _ h => same h
  exact (out7 a0 a1 w (by omega) (by omega) (by omega) h7 h8).mono fun _ _ h => same h

/-! ### THE ROW's STEP: WRITTEN OUT: LEAVE IT -/
set_option maxRecDepth 100000 in
theorem lifted (os : Os) (started : os.Started) (H : Type) (enc : TypeId × Value → H) :
    ReturnsInHanded {} Try.checked os 4 .any (Rows.fnEnclosedLenClosesOnItsCloserIgnoresTheTailAndNestsSpec.pre6 enc Try.prog Try.f4 Rows.fnEnclosedLenClosesOnItsCloserIgnoresTheTailAndNestsRow.domain false) (Rows.fnEnclosedLenClosesOnItsCloserIgnoresTheTailAndNestsSpec.post enc Try.prog Try.f4 false true false false) := by
  refine returnsInHanded_of_change (C := Try.checked) own started (by kernel_rfl) Try.func4
    (ChangeSpec.witness6 (enc := enc) (C := Try.checked) false ⟨#[], #[.string ByteArray.empty, .string ByteArray.empty], []⟩ 8 (by kernel_rfl) (by kernel_rfl) (by kernel_rfl) (by kernel_rfl)) ?_
  intro W base args ds gs before hval0 hW hcnd _
  have hval : ∀ (j : Nat) t v, Try.f4.params[j]? = some t → args[j]? = some v → Value.okWide Try.prog W .any base t v := hval0
  have hW' := hW
  obtain ⟨p, q, hA0, hV, rfl, hfz, hnd⟩ := hW
  have hA : DataW.TrodAll enc Try.prog W 0 (fun _ => true) true Try.f4.params.toList args.toList ds p := hA0
  rw [Try.params4] at hA hval
  obtain ⟨v0, vs0, d0, ds0, p0, q0, hargs, rfl, rfl, h0, r0⟩ := trodAll_cons hA
  obtain ⟨v1, vs1, d1, ds1, p1, q1, rfl, rfl, rfl, h1, r1⟩ := trodAll_cons r0
  obtain ⟨rfl, rfl, rfl⟩ := trodAll_nil r1
  obtain rfl : args = #[v0, v1] := by cases args; simp_all
  obtain ⟨rfl, rfl⟩ := trodVars_none hV
  obtain ⟨a0, rfl, rfl, rfl, w0⟩ := open_string Try.underlying9 (hval 0 9 v0 rfl rfl) h0
  obtain ⟨a1, rfl, rfl, rfl, w1⟩ := open_string Try.underlying9 (hval 1 9 v1 rfl rfl) h1
  clear hA0 hval0
  simp only [List.append_nil] at hW'
  refine (walk a0 a1 w0 w1 W).mono fun e W' ⟨he, hg⟩ => ?_
  subst he
  exact ⟨_, rfl, post_of_same (pa := []) (pv := []) hW' (fun _ _ _ => (trodAll_cons_mk (shut_bool Try.underlying4 _) trodAll_mk0)) (fun sp _ => (trodAll_cons_mk (shut_string Try.underlying9 w0) (trodAll_cons_mk (shut_string Try.underlying9 w1) trodAll_mk0))) (fun _ _ => rfl) rfl
    (hg.frame _) hg.2.1 (ok_one (by kernel_rfl) rfl (okWide_bool_mk Try.underlying4 _))⟩

theorem over : Rows.fnEnclosedLenClosesOnItsCloserIgnoresTheTailAndNestsRow.holds Try.pinned (OpenSpec.ofChange Rows.fnEnclosedLenClosesOnItsCloserIgnoresTheTailAndNestsSpec) :=
  OpenClaim.holds_of_wide 4 Try.f4 rfl rfl rfl rfl rfl rfl rfl ⟨rfl, rfl, rfl, rfl, rfl⟩ rfl rfl rfl rfl rfl (by kernel_rfl) Try.func4 (by kernel_rfl)
    (of_decide_eq_true (by kernel_rfl)) (by unfold Func.isWrapper; first | (rw [if_pos (by decide +kernel)]; kernel_rfl) | (rw [if_neg (by decide +kernel)]; exact ⟨rfl, rfl⟩))
    (fun os started H enc _ => lifted os started H enc)

/-- THE STATEMENT. -/
theorem proved : Rows.FnEnclosedLenClosesOnItsCloserIgnoresTheTailAndNestsSaid :=
  over
end Go.Proofs.Qxb6617394a.fnEnclosedLenClosesOnItsCloserIgnoresTheTailAndNests
