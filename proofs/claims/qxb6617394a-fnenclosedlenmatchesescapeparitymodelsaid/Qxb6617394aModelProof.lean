/-
  FnEnclosedLenMatchesEscapeParityModel (3): the walks joined; the row (the frame: the given shell's).
-/
import Derived.Test.Qxb6617394aRows
import Derived.WalkKit
import Derived.ProofKit
import Derived.OpenShut
import Derived.ShutString
import Derived.Test.Qxb6617394aModel
namespace Go.Proofs.Qxb6617394a.fnEnclosedLenMatchesEscapeParityModel
open Go.ChangeShapes Go.WideShapes Go.ChangeAt Go.RowKit
open Go.ChangeMaps (open_string shut_string)
set_option linter.unusedVariables false      -- a walk need not use every 'w<i>' (that an integer argument fits its kind)

theorem own : ownKnob Try.prog.godebug = none := by kernel_rfl

set_option maxRecDepth 100000 in
theorem out1 (s : ByteArray) (w : World) (h1 : 1048576 < s.size) :
    Calls Try.prog 3 #[.string s] w fun e w' => e = .returned (.bool true) ∧ w' = w := by
  go_enter Try.func3, Try.ntmps3
  go_wp2
  go_ret
  exact ⟨rfl, rfl⟩

theorem zz5_any (s : ByteArray) (w : World) (h : s.size ≤ 1048576) :
    Calls Try.prog 5 #[.string s] w fun e w' => e = .returned (.bool true) ∧ w' = w := by
  go_enter Try.func5, Try.ntmps5
  go_wp2
  go_ret
  exact ⟨rfl, rfl⟩

set_option maxRecDepth 100000 in
theorem out2 (s : ByteArray) (w : World) (h : s.size ≤ 1048576) (h6 : ((s.size : Int) == 0) = true) :
    Calls Try.prog 3 #[.string s] w fun e w' => e = .returned (.bool true) ∧ w' = w := by
  go_enter Try.func3, Try.ntmps3
  go_wp2_with fail
  refine (zz5_any s w h).mono ?_
  rintro e w' ⟨rfl, hw⟩
  subst hw
  go_wp2_with fail
  go_ret
  exact ⟨rfl, rfl⟩

theorem nz (s : ByteArray) (hp : 0 < s.size) : ((s.size : Int) == 0) = false := by
  cases hz : ((s.size : Int) == 0)
  · rfl
  · have : (s.size : Int) = 0 := by simpa using hz
    omega

set_option maxRecDepth 100000 in
theorem out3 (s : ByteArray) (w : World) (h : s.size ≤ 1048576) (hp : 0 < s.size) (a1 : byt s 0 ≠ 34) (a2 : byt s 0 ≠ 40) :
    Calls Try.prog 3 #[.string s] w fun e w' => e = .returned (.bool true) ∧ w' = w := by
  have z0 := nz s hp
  have b1 : (((s[0]'hp).toNat : Int) != 34) = true := by rw [← byt_at hp]; simp; omega
  have b2 : (((s[0]'hp).toNat : Int) != 40) = true := by rw [← byt_at hp]; simp; omega
  clear a1 a2
  go_enter Try.func3, Try.ntmps3
  go_wp2_with fail
  refine (zz5_any s w h).mono ?_
  rintro e w' ⟨rfl, hw⟩
  subst hw
  go_wp2_with fail
  go_ret
  exact ⟨rfl, rfl⟩

set_option maxRecDepth 100000 in
theorem main_q (s : ByteArray) (w : World) (h : s.size ≤ 1048576) (hp : 0 < s.size) (hq : byt s 0 = 34) :
    Calls Try.prog 3 #[.string s] w fun e w' => e = .returned (.bool true) ∧ w' = w := by
  obtain ⟨r, b, hR⟩ : ∃ r b, enc true (byt s) s.size s.size 0 0 = (r, b) := ⟨_, _, rfl⟩
  have hc : Calls Try.prog 6 #[.string s] w fun e w' => e = .returned (.tuple #[.int .i64 r, .bool b]) ∧ w' = w := zzenc_any s w (r, b) true hp (by omega) (by rw [if_pos rfl]; exact hq) hR
  have hm := mdl_q s w hp (by omega) hq
  rw [← enc_is_mdl (q := true) hp (by rw [if_pos rfl]; exact hq) s.size s.size (Nat.le_refl _) (by omega), hR] at hm
  have z0 := nz s hp
  have a1 : (((s[0]'hp).toNat : Int) != 34) = false := by rw [← byt_at hp, hq]; rfl
  clear hR hq
  go_enter Try.func3, Try.ntmps3
  go_wp2_with fail
  refine (zz5_any s w h).mono ?_
  rintro e w' ⟨rfl, hw⟩
  subst hw
  go_wp2_with fail
  refine hc.mono ?_
  rintro e w' ⟨rfl, hw⟩
  subst hw
  clear hc
  go_wp2_with fail
  refine hm.mono ?_
  rintro e w' ⟨rfl, hw⟩
  subst hw
  clear hm
  go_wp2_with fail
  go_ret
  exact ⟨rfl, rfl⟩

set_option maxRecDepth 100000 in
theorem main_c (s : ByteArray) (w : World) (h : s.size ≤ 1048576) (hp : 0 < s.size) (hq : byt s 0 = 40) :
    Calls Try.prog 3 #[.string s] w fun e w' => e = .returned (.bool true) ∧ w' = w := by
  obtain ⟨r, b, hR⟩ : ∃ r b, enc false (byt s) s.size s.size 0 0 = (r, b) := ⟨_, _, rfl⟩
  have hc : Calls Try.prog 6 #[.string s] w fun e w' => e = .returned (.tuple #[.int .i64 r, .bool b]) ∧ w' = w := zzenc_any s w (r, b) false hp (by omega) (by rw [if_neg Bool.false_ne_true]; exact hq) hR
  have hm := mdl_c s w hp (by omega) hq
  rw [← enc_is_mdl (q := false) hp (by rw [if_neg Bool.false_ne_true]; exact hq) s.size s.size (Nat.le_refl _) (by omega), hR] at hm
  have z0 := nz s hp
  have a1 : (((s[0]'hp).toNat : Int) != 34) = true := by rw [← byt_at hp, hq]; rfl
  have a2 : (((s[0]'hp).toNat : Int) != 40) = false := by rw [← byt_at hp, hq]; rfl
  clear hR hq
  go_enter Try.func3, Try.ntmps3
  go_wp2_with fail
  refine (zz5_any s w h).mono ?_
  rintro e w' ⟨rfl, hw⟩
  subst hw
  go_wp2_with fail
  refine hc.mono ?_
  rintro e w' ⟨rfl, hw⟩
  subst hw
  clear hc
  go_wp2_with fail
  refine hm.mono ?_
  rintro e w' ⟨rfl, hw⟩
  subst hw
  clear hm
  go_wp2_with fail
  go_ret
  exact ⟨rfl, rfl⟩

theorem walk (a0 : ByteArray) (w0 : a0.size ≤ maxLen) (w : World) :
    Calls Try.prog 3 #[.string a0] w fun e w' => e = .returned (.bool true) ∧ Grown w w' := by
  have same : ∀ {e : Ending} {w' : World}, e = .returned (.bool true) ∧ w' = w → e = .returned (.bool true) ∧ Grown w w' := by
    rintro e w' ⟨rfl, rfl⟩
    exact ⟨rfl, Grown.refl _⟩
  by_cases h1 : 1048576 < a0.size
  · exact (out1 a0 w h1).mono fun _ _ h => same h
  by_cases h6 : a0.size = 0
  · exact (out2 a0 w (by omega) (by rw [h6]; rfl)).mono fun _ _ h => same h
  by_cases h7 : byt a0 0 = 34
  · exact (main_q a0 w (by omega) (by omega) h7).mono fun _ _ h => same h
  by_cases h8 : byt a0 0 = 40
  · exact (main_c a0 w (by omega) (by omega) h8).mono fun _ _ h => same h
  exact (out3 a0 w (by omega) (by omega) h7 h8).mono fun _ _ h => same h

/-! ### THE ROW's STEP: WRITTEN OUT: LEAVE IT -/
set_option maxRecDepth 100000 in
theorem lifted (os : Os) (started : os.Started) (H : Type) (enc : TypeId × Value → H) :
    ReturnsInHanded {} Try.checked os 3 .any (Rows.fnEnclosedLenMatchesEscapeParityModelSpec.pre6 enc Try.prog Try.f3 Rows.fnEnclosedLenMatchesEscapeParityModelRow.domain false) (Rows.fnEnclosedLenMatchesEscapeParityModelSpec.post enc Try.prog Try.f3 false true false false) := by
  refine returnsInHanded_of_change (C := Try.checked) own started (by kernel_rfl) Try.func3
    (ChangeSpec.witness6 (enc := enc) (C := Try.checked) false ⟨#[], #[.string ByteArray.empty], []⟩ 8 (by kernel_rfl) (by kernel_rfl) (by kernel_rfl) (by kernel_rfl)) ?_
  intro W base args ds gs before hval0 hW hcnd _
  have hval : ∀ (j : Nat) t v, Try.f3.params[j]? = some t → args[j]? = some v → Value.okWide Try.prog W .any base t v := hval0
  have hW' := hW
  obtain ⟨p, q, hA0, hV, rfl, hfz, hnd⟩ := hW
  have hA : DataW.TrodAll enc Try.prog W 0 (fun _ => true) true Try.f3.params.toList args.toList ds p := hA0
  rw [Try.params3] at hA hval
  obtain ⟨v0, vs0, d0, ds0, p0, q0, hargs, rfl, rfl, h0, r0⟩ := trodAll_cons hA
  obtain ⟨rfl, rfl, rfl⟩ := trodAll_nil r0
  obtain rfl : args = #[v0] := by cases args; simp_all
  obtain ⟨rfl, rfl⟩ := trodVars_none hV
  obtain ⟨a0, rfl, rfl, rfl, w0⟩ := open_string Try.underlying9 (hval 0 9 v0 rfl rfl) h0
  clear hA0 hval0
  simp only [List.append_nil] at hW'
  refine (walk a0 w0 W).mono fun e W' ⟨he, hg⟩ => ?_
  subst he
  exact ⟨_, rfl, post_of_same (pa := []) (pv := []) hW' (fun _ _ _ => (trodAll_cons_mk (shut_bool Try.underlying4 _) trodAll_mk0)) (fun sp _ => (trodAll_cons_mk (shut_string Try.underlying9 w0) trodAll_mk0)) (fun _ _ => rfl) rfl
    (hg.frame _) hg.2.1 (ok_one (by kernel_rfl) rfl (okWide_bool_mk Try.underlying4 _))⟩

theorem over : Rows.fnEnclosedLenMatchesEscapeParityModelRow.holds Try.pinned (OpenSpec.ofChange Rows.fnEnclosedLenMatchesEscapeParityModelSpec) :=
  OpenClaim.holds_of_wide 3 Try.f3 rfl rfl rfl rfl rfl rfl rfl ⟨rfl, rfl, rfl, rfl, rfl⟩ rfl rfl rfl rfl rfl (by kernel_rfl) Try.func3 (by kernel_rfl)
    (of_decide_eq_true (by kernel_rfl)) (by unfold Func.isWrapper; first | (rw [if_pos (by decide +kernel)]; kernel_rfl) | (rw [if_neg (by decide +kernel)]; exact ⟨rfl, rfl⟩))
    (fun os started H enc _ => lifted os started H enc)

/-- THE STATEMENT. -/
theorem proved : Rows.FnEnclosedLenMatchesEscapeParityModelSaid :=
  over
end Go.Proofs.Qxb6617394a.fnEnclosedLenMatchesEscapeParityModel
