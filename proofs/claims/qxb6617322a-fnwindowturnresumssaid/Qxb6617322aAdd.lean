/-
  THE WALK OF (*window).add (18).
-/
import Derived.Test.Qxb6617322aChecked
import Derived.WalkKit
import Derived.WalkLawsBesides
import Derived.WalkSpells
import Derived.Deep.QuietTactic
import Derived.BigQuiet
import Derived.Deep.AppendLies
import Derived.Test.Qxb6617322aWin
namespace Go.Proofs.Qxb6617322a
open Go.RowKit Fl
attribute [local go_sem] run_fadd run_fsub run_fmul run_store_float

theorem Try.info22 : (Try.prog.info? 22).map (fun i => (i.zero, i.size, i.bytes)) = some (some (.float .f64 0), 1, 8) := by kernel_rfl

set_option maxRecDepth 100000 in
set_option maxHeartbeats 400000 in
theorem add_grow (w : World) (B : Nat) (size next : Int) (s q x n cap base : Nat) (ao : Option Addr) (vs : List Value) (s0 q0 : Nat)
    (hW : Win w B size (.slice ao n cap) next s q) (hown : w.ownsRow base 22 1 (.slice ao n cap) n vs) (hne : (Value.slice ao n cap).ownBlock ≠ some B)
    (hlt : (n : Int) < size) (hn : n ≤ 65536) (hbase : base ≤ B) (hs : Same s s0) (hq : Same q q0) :
    Calls Try.prog 18 #[.pointer (some ⟨B, 0, none⟩), .float .f64 x] w fun e w' => e = .returned (.tuple #[]) ∧ ∃ v' s' q', Win w' B size v' next s' q' ∧
      w'.ownsRow base 22 1 v' (n + 1) (vs ++ [.float .f64 x]) ∧ Same s' (addC s0 x) ∧ Same q' (addC q0 (mulC x x)) ∧ Below base w w' := by
  obtain ⟨i0, hi, hz0, hz1, hz2⟩ := info_parts Try.info22
  obtain ⟨c0, c1, c2, c3, c4⟩ := hW.cell
  obtain ⟨f0, f1, f2, f3, f4⟩ := hW.frozen
  have hBl := hW.lt
  go_enter Try.func18, Try.ntmps18
  go_wp2_with fail
  go_quiet (fail)
  go_wp2_with (at_builtin; go_loud (refine wpList_append_lies _ (by rfl) (.tmp 21) (.tmp 23) 34 (by rfl) base 22 i0 (.float .f64 0) 1 8 Try.underlying34 hi hz0 hz1 hz2 rfl (by decide) _ n vs (by rfl) ?ho ⟨w.heap.size, 0, none⟩ 1 1 [.float .f64 x] ?hx (by rfl) ?hnew ?h1 (by decide) (by unfold maxLen; omega) (by omega) (by simp; omega) (w.heap.size + 1) (by simp) ?_))
  case ho => exact (own_drewN hown nq).alloc _
  case hx => rfl
  case hnew => exact cell_one_new (w.drewN nq) _ _
  case h1 => intro u hu; simp at hu; subst hu; rfl
  intro g cap' w1 hown1 hgrow hat hlt1
  have hW1 : Win w1 B size (.slice ao n cap) next s q := hW.block (by
    rw [hgrow.block B (by simp; omega) (fun e => hne e.symm)]
    exact Below.heap_alloc _ _ _ hBl)
  have hb1 : Below base w w1 := (((Below.refl base w).trans (below_drewN (Below.refl _ _) nq)).alloc (by simp; omega) _).grown hgrow (by simp; omega) (fun k hk => (hown.lt k hk).1)
  have hgB : g ≠ B := by
    rcases hat with hat | hat
    · intro e; subst e; exact hne hat
    · omega
  clear hgrow hat hown c0 c1 c2 c3 c4 f0 f1 f2 f3 f4 hi hz0 hz1 hz2
  obtain ⟨c0, c1, c2, c3, c4⟩ := hW1.cell
  obtain ⟨f0, f1, f2, f3, f4⟩ := hW1.frozen
  go_wp2
  refine bodyPost_ret (results_none rfl _ _ _) rfl ?_
  refine ⟨rfl, _, _, _, ((((hW1.set1 _).drewN _).set3 _).drewN _).set4 _, ?_, fadd_same _ hs (Same.refl x), fadd_same _ hq (fmul_same _ (Same.refl x) (Same.refl x)), ?_⟩
  · have hb : (Value.slice (some ⟨g, 0, none⟩) (n + 1) cap').ownBlock ≠ some B := by simpa [Value.ownBlock] using hgB
    exact own_set (own_drewN (own_set (own_drewN (own_set hown1 hb _) _) hb _) _) hb _
  · exact (below_drewN ((below_drewN (hb1.setCell hbase _) _).setCell hbase _) _).setCell hbase _

end Go.Proofs.Qxb6617322a
