/-
  ZZWindowAdd (14): one contract over a plain step.
-/
import Derived.Test.Qxb6617322aAdd
import Derived.Test.Qxb6617322aAddMid
import Derived.Test.Qxb6617322aAddTurn
namespace Go.Proofs.Qxb6617322a
open Go.RowKit Fl
attribute [local go_sem] run_fadd run_fsub run_fmul run_store_float

/-- (*window).add, all three ways. -/
theorem add_any (w : World) (B : Nat) (size : Int) (s q x base : Nat) (v : Value) (st : St)
    (hW : Win w B size v st.next s q) (hown : w.ownsRow base 22 1 v st.vs.length (st.vs.map (Value.float .f64))) (hne : v.ownBlock ≠ some B)
    (hn : st.vs.length ≤ 65536) (hnx : size ≤ (st.vs.length : Int) → st.next < st.vs.length) (hbase : base ≤ B) (hs : Same s st.s) (hq : Same q st.q) :
    Calls Try.prog 18 #[.pointer (some ⟨B, 0, none⟩), .float .f64 x] w fun e w' => e = .returned (.tuple #[]) ∧ ∃ v' s' q', Win w' B size v' (st.step size x).next s' q' ∧
      w'.ownsRow base 22 1 v' (st.step size x).vs.length ((st.step size x).vs.map (Value.float .f64)) ∧ Same s' (st.step size x).s ∧ Same q' (st.step size x).q ∧ Below base w w' := by
  by_cases h : (st.vs.length : Int) < size
  · rw [step_grow h]
    have hv : ∃ ao cap, v = .slice ao st.vs.length cap := by
      rcases hown.2 with ⟨e, e0⟩ | ⟨g, cap, _, e, _⟩
      · exact ⟨none, 0, by rw [e, e0]⟩
      · exact ⟨_, cap, e⟩
    obtain ⟨ao, cap, rfl⟩ := hv
    refine (add_grow w B size st.next s q x _ cap base ao _ _ _ hW hown hne h hn hbase hs hq).mono ?_
    rintro e w' ⟨rfl, v', s', q', h1, h2, h3, h4, h5⟩
    exact ⟨rfl, v', s', q', h1, by simpa using h2, h3, h4, h5⟩
  · have hnx' := hnx (by omega)
    obtain ⟨g, cap, rfl, hbg, hgl⟩ := hown.form (by omega)
    have hgB : g ≠ B := by intro e; exact hne (by rw [e]; rfl)
    by_cases h2 : st.next + 1 < st.vs.length
    · rw [step_mid h h2]
      refine (add_mid w B size st.next s q x _ cap base g _ _ _ hW hown hgB (by omega) hn h2 hbase hbg hs hq).mono ?_
      rintro e w' ⟨rfl, s', q', h1, h2, h3, h4, h5⟩
      exact ⟨rfl, _, s', q', h1, by simpa using h2, h3, h4, h5⟩
    · rw [step_turn h h2]
      refine (add_turn w B size st.next s q x _ cap base g _ hW hown hgB (by omega) hn (by omega) hbase hbg).mono ?_
      rintro e w' ⟨rfl, s', q', h1, h2, h3, h4, h5⟩
      exact ⟨rfl, _, s', q', h1, by simpa using h2, h3, h4, h5⟩

set_option maxRecDepth 100000 in
set_option maxHeartbeats 400000 in
theorem zzAdd_any (w : World) (size : Int) (s q x base : Nat) (v : Value) (st : St)
    (hown : w.ownsRow base 22 1 v st.vs.length (st.vs.map (Value.float .f64)))
    (hn : st.vs.length ≤ 65536) (hnx : size ≤ (st.vs.length : Int) → st.next < st.vs.length) (hbase : base ≤ w.heap.size) (hs : Same s st.s) (hq : Same q st.q) :
    Calls Try.prog 14 #[.int .i64 size, v, .int .i64 st.next, .float .f64 s, .float .f64 q, .float .f64 x] w fun e w' => ∃ v' s' q', e = .returned (.tuple #[v', .int .i64 (st.step size x).next, .float .f64 s', .float .f64 q']) ∧
      w'.ownsRow base 22 1 v' (st.step size x).vs.length ((st.step size x).vs.map (Value.float .f64)) ∧ Same s' (st.step size x).s ∧ Same q' (st.step size x).q ∧ Below base w w' := by
  have hne : v.ownBlock ≠ some w.heap.size := by
    intro e
    have := (hown.lt _ e).2
    omega
  have hc := add_any (w.alloc (.cells #[.int .i64 size, v, .int .i64 st.next, .float .f64 s, .float .f64 q] 36)) w.heap.size size s q x base v st (heap_alloc_new w _) (hown.alloc _) hne hn hnx hbase hs hq
  obtain ⟨st', hst'⟩ : ∃ st', st' = st.step size x := ⟨_, rfl⟩
  rw [← hst'] at hc ⊢
  clear hst' hnx hne
  have hv : ∃ ao n cap, v = .slice ao n cap := by
    rcases hown.2 with ⟨rfl, _⟩ | ⟨g, cap, _, rfl, _⟩
    · exact ⟨_, _, _, rfl⟩
    · exact ⟨_, _, _, rfl⟩
  obtain ⟨ao, vn, cap, rfl⟩ := hv
  go_enter Try.func14, Try.ntmps14
  go_wp2_with (go_at_call 18; go_must (refine hc.mono ?_); rintro e w1 ⟨rfl, v', s', q', h1, h2, h3, h4, h5⟩)
  obtain ⟨c0, c1, c2, c3, c4⟩ := h1.cell
  have hv' : ∃ ao n cap, v' = .slice ao n cap := by
    rcases h2.2 with ⟨rfl, _⟩ | ⟨g, cap, _, rfl, _⟩
    · exact ⟨_, _, _, rfl⟩
    · exact ⟨_, _, _, rfl⟩
  obtain ⟨ao', vn', cap', hv'⟩ := hv'
  subst hv'
  clear hc hown
  go_quiet (fail)
  go_wp2
  refine bodyPost_ret (v := .tuple #[.slice ao' vn' cap', .int .i64 st'.next, .float .f64 s', .float .f64 q']) (by simp [results, Try.results14, go_sem]) rfl ⟨_, _, _, rfl, own_drewN h2 _, h3, h4, ?_⟩
  exact below_drewN (((Below.refl base w).alloc hbase _).trans h5) _

end Go.Proofs.Qxb6617322a
