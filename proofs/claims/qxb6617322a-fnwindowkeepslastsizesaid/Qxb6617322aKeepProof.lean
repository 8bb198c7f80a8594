/-
  FnWindowKeepsLastSize (4): the walks joined; the row.
-/
import Derived.Test.Qxb6617322aRows
import Derived.WalkKit
import Derived.ProofKit
import Derived.OpenShut
import Derived.ShutString
import Derived.ChangeOld
import Derived.Below
import Derived.Test.Qxb6617322aRowF
import Derived.Test.Qxb6617322aKeepA
import Derived.Test.Qxb6617322aKeepB
import Derived.Test.Qxb6617322aKeepC
namespace Go.Proofs.Qxb6617322a.Keep
open Go.ChangeShapes Go.WideShapes Go.ChangeAt Go.RowKit
set_option linter.unusedVariables false

theorem own : ownKnob Try.prog.godebug = none := by kernel_rfl
theorem laidOut : laidOutB Try.prog = true := by kernel_rfl

set_option maxRecDepth 100000 in
theorem keep_vlong (size : Int) (a : Option Addr) (len cap : Nat) (w : World) (h : 1048576 < len) :
    Calls Try.prog 4 #[.int .i64 size, .slice a len cap] w fun e w' => e = .returned (.bool true) ∧ w' = w := by
  go_enter Try.func4, Try.ntmps4
  go_wp2
  go_ret
  exact ⟨rfl, rfl⟩

set_option maxRecDepth 100000 in
theorem keep_long (size : Int) (a : Option Addr) (len cap : Nat) (w : World) (h : 65536 < len) (h2 : len ≤ 1048576) :
    Calls Try.prog 4 #[.int .i64 size, .slice a len cap] w fun e w' => e = .returned (.bool true) ∧ w' = w := by
  go_enter Try.func4, Try.ntmps4
  go_wp2
  go_ret
  exact ⟨rfl, rfl⟩

set_option maxRecDepth 100000 in
theorem keep_small (size : Int) (a : Option Addr) (len cap : Nat) (w : World) (h : len ≤ 65536) (h2 : size < 1) :
    Calls Try.prog 4 #[.int .i64 size, .slice a len cap] w fun e w' => e = .returned (.bool true) ∧ w' = w := by
  go_enter Try.func4, Try.ntmps4
  go_wp2
  go_ret
  exact ⟨rfl, rfl⟩

set_option maxRecDepth 100000 in
theorem keep_great (size : Int) (a : Option Addr) (len cap : Nat) (w : World) (h : len ≤ 65536) (h1 : ¬ size < 1) (h2 : 65536 < size) :
    Calls Try.prog 4 #[.int .i64 size, .slice a len cap] w fun e w' => e = .returned (.bool true) ∧ w' = w := by
  go_enter Try.func4, Try.ntmps4
  go_wp2
  go_ret
  exact ⟨rfl, rfl⟩

set_option maxRecDepth 100000 in
theorem keep_zero (size : Int) (a : Option Addr) (cap : Nat) (w : World) (h1 : 1 ≤ size) (h2 : size ≤ 65536) :
    Calls Try.prog 4 #[.int .i64 size, .slice a 0 cap] w fun e w' => e = .returned (.bool true) ∧ w' = w := by
  have h3 : Fl.sameB 0 0 = true := Fl.sameB_of (Fl.Same.refl 0)
  have h4 : (0 : Int) < size := by omega
  go_enter Try.func4, Try.ntmps4
  go_wp2
  go_loop [5, 6, 7, 8, 9] (fun v nx s q i => i = .int .i64 0 ∧ v = .slice none 0 0 ∧ nx = .int .i64 0 ∧ s = .float .f64 0 ∧ q = .float .f64 0) (fun _ _ _ _ _ => 0)
  case atStart => exact ⟨rfl, rfl, rfl, rfl, rfl⟩
  case round =>
    obtain ⟨rfl, rfl, rfl, rfl, rfl⟩ := hrel
    go_wp2
    go_loop [13] (fun j => j = .int .i64 0) (fun _ => 0)
    case atStart => rfl
    case round =>
      subst hrel
      go_wp2
      go_loop [14, 15, 16] (fun s q j => s = .float .f64 0 ∧ q = .float .f64 0 ∧ j = .int .i64 0) (fun _ _ _ => 0)
      case atStart => exact ⟨rfl, rfl, rfl⟩
      case round =>
        obtain ⟨rfl, rfl, rfl⟩ := hrel
        go_wp2_with (go_at_call 12; refine (zzSame_any _ _ _).mono ?_; rintro e w' ⟨rfl, rfl⟩)
        go_ret
        exact ⟨rfl, rfl⟩

theorem walk (size : Int) (a : Option Addr) (len cap : Nat) (xs : List Nat) (w : World) (hr : IsRowF w a len xs) :
    Calls Try.prog 4 #[.int .i64 size, .slice a len cap] w fun e w' => e = .returned (.bool true) ∧ Below w.heap.size w w' := by
  have same : ∀ {e : Ending} {w' : World}, e = .returned (.bool true) ∧ w' = w → e = .returned (.bool true) ∧ Below w.heap.size w w' := by
    rintro e w' ⟨rfl, rfl⟩
    exact ⟨rfl, Below.refl _ _⟩
  by_cases h1 : 1048576 < len
  · exact (keep_vlong size a len cap w h1).mono fun _ _ h => same h
  by_cases h2 : 65536 < len
  · exact (keep_long size a len cap w h2 (by omega)).mono fun _ _ h => same h
  by_cases h3 : size < 1
  · exact (keep_small size a len cap w (by omega) h3).mono fun _ _ h => same h
  by_cases h4 : 65536 < size
  · exact (keep_great size a len cap w (by omega) h3 h4).mono fun _ _ h => same h
  by_cases h5 : len = 0
  · subst h5
    exact (keep_zero size a cap w (by omega) (by omega)).mono fun _ _ h => same h
  obtain ⟨hxl, hr⟩ := hr
  obtain ⟨b, off, rfl, hb, hc⟩ := hr (by omega)
  obtain ⟨sz, rfl⟩ : ∃ sz : Nat, size = (sz : Int) := ⟨size.toNat, by omega⟩
  by_cases h6 : sz < len
  · exact keep_c w sz len cap b off xs hxl hc hb (by omega) (by omega) (by omega) (by omega) h6
  by_cases h7 : len < sz
  · exact keep_a w sz len cap b off xs hxl hc hb (by omega) (by omega) (by omega) (by omega) h7
  · exact keep_b w sz len cap b off xs hxl hc hb (by omega) (by omega) (by omega) (by omega) (by omega) (by omega)

set_option maxRecDepth 100000 in
theorem lifted (os : Os) (started : os.Started) (H : Type) (enc : TypeId × Value → H) :
    ReturnsInHanded {} Try.checked os 4 .any (Rows.fnWindowKeepsLastSizeSpec.pre6 enc Try.prog Try.f4 Rows.fnWindowKeepsLastSizeRow.domain false) (Rows.fnWindowKeepsLastSizeSpec.post enc Try.prog Try.f4 false true false false) := by
  refine returnsInHanded_of_change (C := Try.checked) own started (by kernel_rfl) Try.func4
    (ChangeSpec.witness6 (enc := enc) (C := Try.checked) false ⟨#[], #[.int .i64 0, .slice none 0 0], []⟩ 8 (by kernel_rfl) (by kernel_rfl) (by kernel_rfl) (by kernel_rfl)) ?_
  intro W base args ds gs before hval0 hW hcnd _
  have hval : ∀ (j : Nat) t v, Try.f4.params[j]? = some t → args[j]? = some v → Value.okWide Try.prog W .any base t v := hval0
  have hW' := hW
  obtain ⟨p, q, hA0, hV, rfl, hfz, hnd⟩ := hW
  have hA : DataW.TrodAll enc Try.prog W 0 (fun _ => true) true Try.f4.params.toList args.toList ds p := hA0
  rw [Try.params4] at hA hval
  obtain ⟨v0, vs0, d0, ds0, p0, q0, hargs, rfl, rfl, h0, r0⟩ := trodAll_cons hA
  obtain ⟨v1, vs1, d1, ds1, p1, q1, rfl, rfl, rfl, h1, r1⟩ := trodAll_cons r0
  obtain ⟨rfl, rfl, rfl⟩ := trodAll_nil r1
  obtain rfl : args = #[v0, v1] := by cases args; simp_all
  obtain ⟨rfl, rfl⟩ := trodVars_none hV
  obtain ⟨a0, rfl, rfl, rfl, w0⟩ := open_int Try.underlying3 (hval 0 3 v0 rfl rfl) h0
  obtain ⟨a1, len1, cap1, rfl⟩ := okWide_slice Try.underlying34 (hval 1 34 v1 rfl rfl)
  have k1 := h1
  have lt1 : ∀ x ∈ p1, x.block < W.heap.size := by obtain ⟨m, hm⟩ := k1; exact DataW.trod_lt m _ _ _ hm
  obtain ⟨xs, hxs⟩ : ∃ xs, IsRowF W a1 len1 xs := by
    obtain ⟨fuel, hf⟩ := h1
    exact open_floats Try.underlying34 Try.underlying22 (by kernel_rfl) hf
  clear hA0 hval0
  refine (walk a0 a1 len1 cap1 xs W hxs).mono fun e W' ⟨he, bel⟩ => ?_
  subst he
  exact ⟨_, rfl, _, _, _, [], _, [], hW', trodAll_mk1 (shut_bool Try.underlying4 _), (trodAll_cons_mk (shut_int Try.underlying3 w0) (trodAll_cons_mk (Below.trod laidOut (by kernel_rfl) (of_decide_eq_true (by kernel_rfl)) k1 bel lt1) trodAll_mk0)), rfl, bel.frame _, fun h => by cases h⟩

theorem over : Rows.fnWindowKeepsLastSizeRow.holds Try.pinned (OpenSpec.ofChange Rows.fnWindowKeepsLastSizeSpec) :=
  OpenClaim.holds_of_wide 4 Try.f4 rfl rfl rfl rfl rfl rfl rfl ⟨rfl, rfl, rfl, rfl, rfl⟩ rfl rfl rfl rfl rfl (by kernel_rfl) Try.func4 (by kernel_rfl)
    (of_decide_eq_true (by kernel_rfl)) (by unfold Func.isWrapper; first | (rw [if_pos (by decide +kernel)]; kernel_rfl) | (rw [if_neg (by decide +kernel)]; exact ⟨rfl, rfl⟩))
    (fun os started H enc _ => lifted os started H enc)

/-- THE STATEMENT. -/
theorem proved : Rows.FnWindowKeepsLastSizeSaid := over
end Go.Proofs.Qxb6617322a.Keep
