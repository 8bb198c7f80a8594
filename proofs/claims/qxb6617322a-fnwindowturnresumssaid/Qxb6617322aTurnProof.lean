/-
  FnWindowTurnResums (5): the ways out ahead of the work; the walks joined; the row.
-/
import Derived.Test.Qxb6617322aRows
import Derived.WalkKit
import Derived.ProofKit
import Derived.OpenShut
import Derived.ShutString
import Derived.ChangeOld
import Derived.Below
import Derived.Test.Qxb6617322aRowF
import Derived.Test.Qxb6617322aTurnWalk
namespace Go.Proofs.Qxb6617322a.Turn
open Go.ChangeShapes Go.WideShapes Go.ChangeAt Go.RowKit
set_option linter.unusedVariables false

theorem own : ownKnob Try.prog.godebug = none := by kernel_rfl
theorem laidOut : laidOutB Try.prog = true := by kernel_rfl

set_option maxRecDepth 100000 in
theorem out1 (size : Int) (a : Option Addr) (L cap : Nat) (nx : Int) (s q : Nat) (a2 : Option Addr) (n cap2 : Nat) (w : World) (h1 : 1048576 < L) :
    Calls Try.prog 5 #[.int .i64 size, .slice a L cap, .int .i64 nx, .float .f64 s, .float .f64 q, .slice a2 n cap2] w fun e w' => e = .returned (.bool true) ∧ w' = w := by
  go_enter Try.func5, Try.ntmps5
  go_wp2
  go_ret
  exact ⟨rfl, rfl⟩

set_option maxRecDepth 100000 in
theorem out2 (size : Int) (a : Option Addr) (L cap : Nat) (nx : Int) (s q : Nat) (a2 : Option Addr) (n cap2 : Nat) (w : World) (h1 : L ≤ 1048576) (h2 : 1048576 < n) :
    Calls Try.prog 5 #[.int .i64 size, .slice a L cap, .int .i64 nx, .float .f64 s, .float .f64 q, .slice a2 n cap2] w fun e w' => e = .returned (.bool true) ∧ w' = w := by
  go_enter Try.func5, Try.ntmps5
  go_wp2
  go_ret
  exact ⟨rfl, rfl⟩

set_option maxRecDepth 100000 in
theorem out3 (size : Int) (a : Option Addr) (L cap : Nat) (nx : Int) (s q : Nat) (a2 : Option Addr) (n cap2 : Nat) (w : World) (h1 : L ≤ 1048576) (h2 : n ≤ 1048576) (h3 : 1048576 < L + n) :
    Calls Try.prog 5 #[.int .i64 size, .slice a L cap, .int .i64 nx, .float .f64 s, .float .f64 q, .slice a2 n cap2] w fun e w' => e = .returned (.bool true) ∧ w' = w := by
  go_enter Try.func5, Try.ntmps5
  go_wp2
  go_ret
  exact ⟨rfl, rfl⟩

set_option maxRecDepth 100000 in
theorem out4 (size : Int) (a : Option Addr) (L cap : Nat) (nx : Int) (s q : Nat) (a2 : Option Addr) (n cap2 : Nat) (w : World) (h2 : n ≤ 1048576) (h3 : L + n ≤ 1048576) (h4 : 65536 < L) :
    Calls Try.prog 5 #[.int .i64 size, .slice a L cap, .int .i64 nx, .float .f64 s, .float .f64 q, .slice a2 n cap2] w fun e w' => e = .returned (.bool true) ∧ w' = w := by
  go_enter Try.func5, Try.ntmps5
  go_wp2
  go_ret
  exact ⟨rfl, rfl⟩

set_option maxRecDepth 100000 in
theorem out5 (size : Int) (a : Option Addr) (L cap : Nat) (nx : Int) (s q : Nat) (a2 : Option Addr) (n cap2 : Nat) (w : World) (h3 : L + n ≤ 1048576) (h4 : L ≤ 65536) (h5 : 65536 < n) :
    Calls Try.prog 5 #[.int .i64 size, .slice a L cap, .int .i64 nx, .float .f64 s, .float .f64 q, .slice a2 n cap2] w fun e w' => e = .returned (.bool true) ∧ w' = w := by
  go_enter Try.func5, Try.ntmps5
  go_wp2
  go_ret
  exact ⟨rfl, rfl⟩

set_option maxRecDepth 100000 in
theorem out6 (size : Int) (a : Option Addr) (L cap : Nat) (nx : Int) (s q : Nat) (a2 : Option Addr) (n cap2 : Nat) (w : World) (h4 : L ≤ 65536) (h5 : n ≤ 65536) (h6 : L < 1) :
    Calls Try.prog 5 #[.int .i64 size, .slice a L cap, .int .i64 nx, .float .f64 s, .float .f64 q, .slice a2 n cap2] w fun e w' => e = .returned (.bool true) ∧ w' = w := by
  go_enter Try.func5, Try.ntmps5
  go_wp2
  go_ret
  exact ⟨rfl, rfl⟩

set_option maxRecDepth 100000 in
theorem out7 (size : Int) (a : Option Addr) (L cap : Nat) (nx : Int) (s q : Nat) (a2 : Option Addr) (n cap2 : Nat) (w : World) (h4 : L ≤ 65536) (h5 : n ≤ 65536) (h6 : 1 ≤ L) (h7 : (L : Int) < size) :
    Calls Try.prog 5 #[.int .i64 size, .slice a L cap, .int .i64 nx, .float .f64 s, .float .f64 q, .slice a2 n cap2] w fun e w' => e = .returned (.bool true) ∧ w' = w := by
  go_enter Try.func5, Try.ntmps5
  go_wp2
  go_ret
  exact ⟨rfl, rfl⟩

set_option maxRecDepth 100000 in
theorem out8 (size : Int) (a : Option Addr) (L cap : Nat) (nx : Int) (s q : Nat) (a2 : Option Addr) (n cap2 : Nat) (w : World) (h4 : L ≤ 65536) (h5 : n ≤ 65536) (h6 : 1 ≤ L) (h7 : size ≤ (L : Int)) (h8 : nx < 0) :
    Calls Try.prog 5 #[.int .i64 size, .slice a L cap, .int .i64 nx, .float .f64 s, .float .f64 q, .slice a2 n cap2] w fun e w' => e = .returned (.bool true) ∧ w' = w := by
  go_enter Try.func5, Try.ntmps5
  go_wp2
  go_ret
  exact ⟨rfl, rfl⟩

set_option maxRecDepth 100000 in
theorem out9 (size : Int) (a : Option Addr) (L cap : Nat) (nx : Int) (s q : Nat) (a2 : Option Addr) (n cap2 : Nat) (w : World) (h4 : L ≤ 65536) (h5 : n ≤ 65536) (h6 : 1 ≤ L) (h7 : size ≤ (L : Int)) (h8 : 0 ≤ nx) (h9 : (L : Int) ≤ nx) :
    Calls Try.prog 5 #[.int .i64 size, .slice a L cap, .int .i64 nx, .float .f64 s, .float .f64 q, .slice a2 n cap2] w fun e w' => e = .returned (.bool true) ∧ w' = w := by
  go_enter Try.func5, Try.ntmps5
  go_wp2
  go_ret
  exact ⟨rfl, rfl⟩

set_option maxRecDepth 100000 in
theorem out10 (size : Int) (a : Option Addr) (L cap : Nat) (nx : Int) (s q : Nat) (a2 : Option Addr) (n cap2 : Nat) (w : World) (h4 : L ≤ 65536) (h5 : n ≤ 65536) (h6 : 1 ≤ L) (h7 : size ≤ (L : Int)) (h8 : 0 ≤ nx) (h9 : nx < (L : Int)) (h10 : ((n : Int) != (L : Int) - nx) = true) :
    Calls Try.prog 5 #[.int .i64 size, .slice a L cap, .int .i64 nx, .float .f64 s, .float .f64 q, .slice a2 n cap2] w fun e w' => e = .returned (.bool true) ∧ w' = w := by
  go_enter Try.func5, Try.ntmps5
  go_wp2
  go_ret
  exact ⟨rfl, rfl⟩

theorem walk (size : Int) (a : Option Addr) (L cap : Nat) (vals : List Nat) (nx : Int) (s q : Nat) (a2 : Option Addr) (n cap2 : Nat) (xs : List Nat) (w : World) (hr : IsRowF w a L vals) (hr2 : IsRowF w a2 n xs) :
    Calls Try.prog 5 #[.int .i64 size, .slice a L cap, .int .i64 nx, .float .f64 s, .float .f64 q, .slice a2 n cap2] w fun e w' => e = .returned (.bool true) ∧ Below w.heap.size w w' := by
  have same : ∀ {e : Ending} {w' : World}, e = .returned (.bool true) ∧ w' = w → e = .returned (.bool true) ∧ Below w.heap.size w w' := by
    rintro e w' ⟨rfl, rfl⟩
    exact ⟨rfl, Below.refl _ _⟩
  by_cases h1 : 1048576 < L
  · exact (out1 size a L cap nx s q a2 n cap2 w h1).mono fun _ _ h => same h
  by_cases h2 : 1048576 < n
  · exact (out2 size a L cap nx s q a2 n cap2 w (by omega) h2).mono fun _ _ h => same h
  by_cases h3 : 1048576 < L + n
  · exact (out3 size a L cap nx s q a2 n cap2 w (by omega) (by omega) h3).mono fun _ _ h => same h
  by_cases h4 : 65536 < L
  · exact (out4 size a L cap nx s q a2 n cap2 w (by omega) (by omega) h4).mono fun _ _ h => same h
  by_cases h5 : 65536 < n
  · exact (out5 size a L cap nx s q a2 n cap2 w (by omega) (by omega) h5).mono fun _ _ h => same h
  by_cases h6 : L < 1
  · exact (out6 size a L cap nx s q a2 n cap2 w (by omega) (by omega) h6).mono fun _ _ h => same h
  by_cases h7 : (L : Int) < size
  · exact (out7 size a L cap nx s q a2 n cap2 w (by omega) (by omega) (by omega) h7).mono fun _ _ h => same h
  by_cases h8 : nx < 0
  · exact (out8 size a L cap nx s q a2 n cap2 w (by omega) (by omega) (by omega) (by omega) h8).mono fun _ _ h => same h
  by_cases h9 : (L : Int) ≤ nx
  · exact (out9 size a L cap nx s q a2 n cap2 w (by omega) (by omega) (by omega) (by omega) (by omega) h9).mono fun _ _ h => same h
  by_cases h10 : (n : Int) = (L : Int) - nx
  · obtain ⟨hvl, hr⟩ := hr
    obtain ⟨b, off, rfl, hb, hc⟩ := hr (by omega)
    obtain ⟨hxl, hr2⟩ := hr2
    obtain ⟨b2, off2, rfl, hb2, hc2⟩ := hr2 (by omega)
    obtain ⟨k, rfl⟩ : ∃ k : Nat, nx = (k : Int) := ⟨nx.toNat, by omega⟩
    exact turn_main w size L cap b off vals hvl k s q n cap2 b2 off2 xs hxl hc hb hc2 hb2 (by omega) (by omega) (by omega) (by omega) (by omega)
  · exact (out10 size a L cap nx s q a2 n cap2 w (by omega) (by omega) (by omega) (by omega) (by omega) (by omega) (by simpa using h10)).mono fun _ _ h => same h

set_option maxRecDepth 100000 in
theorem lifted (os : Os) (started : os.Started) (H : Type) (enc : TypeId × Value → H) :
    ReturnsInHanded {} Try.checked os 5 .any (Rows.fnWindowTurnResumsSpec.pre6 enc Try.prog Try.f5 Rows.fnWindowTurnResumsRow.domain false) (Rows.fnWindowTurnResumsSpec.post enc Try.prog Try.f5 false true false false) := by
  refine returnsInHanded_of_change (C := Try.checked) own started (by kernel_rfl) Try.func5
    (ChangeSpec.witness6 (enc := enc) (C := Try.checked) false ⟨#[], #[.int .i64 0, .slice none 0 0, .int .i64 0, .float .f64 0, .float .f64 0, .slice none 0 0], []⟩ 8 (by kernel_rfl) (by kernel_rfl) (by kernel_rfl) (by kernel_rfl)) ?_
  intro W base args ds gs before hval0 hW hcnd _
  have hval : ∀ (j : Nat) t v, Try.f5.params[j]? = some t → args[j]? = some v → Value.okWide Try.prog W .any base t v := hval0
  have hW' := hW
  obtain ⟨p, q, hA0, hV, rfl, hfz, hnd⟩ := hW
  have hA : DataW.TrodAll enc Try.prog W 0 (fun _ => true) true Try.f5.params.toList args.toList ds p := hA0
  rw [Try.params5] at hA hval
  obtain ⟨v0, vs0, d0, ds0, p0, q0, hargs, rfl, rfl, h0, r0⟩ := trodAll_cons hA
  obtain ⟨v1, vs1, d1, ds1, p1, q1, rfl, rfl, rfl, h1, r1⟩ := trodAll_cons r0
  obtain ⟨v2, vs2, d2, ds2, p2, q2, rfl, rfl, rfl, h2, r2⟩ := trodAll_cons r1
  obtain ⟨v3, vs3, d3, ds3, p3, q3, rfl, rfl, rfl, h3, r3⟩ := trodAll_cons r2
  obtain ⟨v4, vs4, d4, ds4, p4, q4, rfl, rfl, rfl, h4, r4⟩ := trodAll_cons r3
  obtain ⟨v5, vs5, d5, ds5, p5, q5, rfl, rfl, rfl, h5, r5⟩ := trodAll_cons r4
  obtain ⟨rfl, rfl, rfl⟩ := trodAll_nil r5
  obtain rfl : args = #[v0, v1, v2, v3, v4, v5] := by cases args; simp_all
  obtain ⟨rfl, rfl⟩ := trodVars_none hV
  obtain ⟨a0, rfl, rfl, rfl, w0⟩ := open_int Try.underlying3 (hval 0 3 v0 rfl rfl) h0
  obtain ⟨a1, len1, cap1, rfl⟩ := okWide_slice Try.underlying34 (hval 1 34 v1 rfl rfl)
  obtain ⟨a2, rfl, rfl, rfl, w2⟩ := open_int Try.underlying3 (hval 2 3 v2 rfl rfl) h2
  obtain ⟨a3, rfl, rfl, rfl, w3⟩ := open_float Try.underlying22 (hval 3 22 v3 rfl rfl) h3
  obtain ⟨a4, rfl, rfl, rfl, w4⟩ := open_float Try.underlying22 (hval 4 22 v4 rfl rfl) h4
  obtain ⟨a5, len5, cap5, rfl⟩ := okWide_slice Try.underlying34 (hval 5 34 v5 rfl rfl)
  have k1 := h1
  have lt1 : ∀ x ∈ p1, x.block < W.heap.size := by obtain ⟨m, hm⟩ := k1; exact DataW.trod_lt m _ _ _ hm
  obtain ⟨vals, hvals⟩ : ∃ xs, IsRowF W a1 len1 xs := by
    obtain ⟨fuel, hf⟩ := h1
    exact open_floats Try.underlying34 Try.underlying22 (by kernel_rfl) hf
  have k5 := h5
  have lt5 : ∀ x ∈ p5, x.block < W.heap.size := by obtain ⟨m, hm⟩ := k5; exact DataW.trod_lt m _ _ _ hm
  obtain ⟨xs, hxs⟩ : ∃ xs, IsRowF W a5 len5 xs := by
    obtain ⟨fuel, hf⟩ := h5
    exact open_floats Try.underlying34 Try.underlying22 (by kernel_rfl) hf
  clear hA0 hval0
  refine (walk a0 a1 len1 cap1 vals a2 a3 a4 a5 len5 cap5 xs W hvals hxs).mono fun e W' ⟨he, bel⟩ => ?_
  subst he
  exact ⟨_, rfl, _, _, _, [], _, [], hW', trodAll_mk1 (shut_bool Try.underlying4 _), (trodAll_cons_mk (shut_int Try.underlying3 w0) (trodAll_cons_mk (Below.trod laidOut (by kernel_rfl) (of_decide_eq_true (by kernel_rfl)) k1 bel lt1) (trodAll_cons_mk (shut_int Try.underlying3 w2) (trodAll_cons_mk (shut_float Try.underlying22 w3) (trodAll_cons_mk (shut_float Try.underlying22 w4) (trodAll_cons_mk (Below.trod laidOut (by kernel_rfl) (of_decide_eq_true (by kernel_rfl)) k5 bel lt5) trodAll_mk0)))))), rfl, bel.frame _, fun h => by cases h⟩

theorem over : Rows.fnWindowTurnResumsRow.holds Try.pinned (OpenSpec.ofChange Rows.fnWindowTurnResumsSpec) :=
  OpenClaim.holds_of_wide 5 Try.f5 rfl rfl rfl rfl rfl rfl rfl ⟨rfl, rfl, rfl, rfl, rfl⟩ rfl rfl rfl rfl rfl (by kernel_rfl) Try.func5 (by kernel_rfl)
    (of_decide_eq_true (by kernel_rfl)) (by unfold Func.isWrapper; first | (rw [if_pos (by decide +kernel)]; kernel_rfl) | (rw [if_neg (by decide +kernel)]; exact ⟨rfl, rfl⟩))
    (fun os started H enc _ => lifted os started H enc)

/-- THE STATEMENT. -/
theorem proved : Rows.FnWindowTurnResumsSaid := over
end Go.Proofs.Qxb6617322a.Turn
