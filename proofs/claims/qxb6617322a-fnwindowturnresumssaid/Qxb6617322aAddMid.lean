/-
  THE WALK OF (*window).add (18) ON A FULL WINDOW, its turn not ended.
-/
import Derived.Test.Qxb6617322aChecked
import Derived.WalkKit
import Derived.WalkLawsBesides
import Derived.WalkSpells
import Derived.Deep.QuietTactic
import Derived.BigQuiet
import Derived.RegionTactic
import Derived.Test.Qxb6617322aWin
namespace Go.Proofs.Qxb6617322a
open Go.RowKit Fl
attribute [local go_sem] run_fadd run_fsub run_fmul run_store_float

set_option maxRecDepth 100000 in
set_option maxHeartbeats 1000000 in
theorem add_mid (w : World) (B : Nat) (size : Int) (next s q x n cap base g : Nat) (xs : List Nat) (s0 q0 : Nat)
    (hW : Win w B size (.slice (some ⟨g, 0, none⟩) n cap) next s q) (hown : w.ownsRow base 22 1 (.slice (some ⟨g, 0, none⟩) n cap) n (xs.map (Value.float .f64))) (hgB : g ≠ B)
    (hlt : size ≤ (n : Int)) (hn : n ≤ 65536) (hnx : next + 1 < n) (hbase : base ≤ B) (hbg : base ≤ g) (hs : Same s s0) (hq : Same q q0) :
    Calls Try.prog 18 #[.pointer (some ⟨B, 0, none⟩), .float .f64 x] w fun e w' => e = .returned (.tuple #[]) ∧ ∃ s' q', Win w' B size (.slice (some ⟨g, 0, none⟩) n cap) ((next + 1 : Nat) : Int) s' q' ∧
      w'.ownsRow base 22 1 (.slice (some ⟨g, 0, none⟩) n cap) n ((xs.set next x).map (Value.float .f64)) ∧ Same s' (addC s0 (subC x (xs.getD next 0))) ∧ Same q' (addC q0 (subC (mulC x x) (mulC (xs.getD next 0) (xs.getD next 0)))) ∧ Below base w w' := by
  obtain ⟨c0, c1, c2, c3, c4⟩ := hW.cell
  obtain ⟨f0, f1, f2, f3, f4⟩ := hW.frozen
  have hBl := hW.lt
  have hxl : xs.length = n := by have := hown.1; simpa using this
  obtain ⟨old, hold⟩ : ∃ old, old = xs.getD next 0 := ⟨_, rfl⟩
  have cg : w.cell? ⟨g, next, none⟩ = some (.float .f64 old) := by
    rw [hown.cellAt next (by omega), hold, List.getElem?_map, List.getD_eq_getElem?_getD, List.getElem?_eq_getElem (by omega)]; rfl
  have fg : w.frozen? ⟨g, next, none⟩ = false := hown.frozenAt next
  have hm : ((next : Int) + 1) % (n : Int) = (next : Int) + 1 := Int.emod_eq_of_lt (by omega) (by omega)
  rw [← hold]
  have HO : Hid (old = xs.getD next 0) := hold
  have HX : Hid (xs.length = n) := hxl
  clear hold hxl
  go_enter Try.func18, Try.ntmps18
  go_wp2_with fail
  go_quiet (fail)
  go_wp2_with fail
  go_quiet (fail)
  go_wp2_with fail
  go_region
  all_goals go_wp2_with fail
  all_goals go_region
  all_goals go_wp2_with fail
  refine bodyPost_end (results_none rfl _ _ _) rfl ?_
  have hb : (Value.slice (some ⟨g, 0, none⟩) n cap).ownBlock ≠ some B := by simpa [Value.ownBlock] using hgB
  exact ⟨rfl, _, _, (((((((hW.drewN _).set3 _).drewN _).set4 _).other _ (Ne.symm hgB)).set2 _).drew).drew, own_drew (own_drew (own_set (own_put (own_set (own_drewN (own_set (own_drewN hown _) hb _) _) hb _) _ _) hb _)),
    fadd_same _ hs (fsub_same _ (Same.refl x) (Same.refl old)), fadd_same _ hq (fsub_same _ (fmul_same _ (Same.refl x) (Same.refl x)) (fmul_same _ (Same.refl old) (Same.refl old))),
    ((((((below_drewN ((below_drewN (Below.refl base w) _).setCell hbase _) _).setCell hbase _).setCell hbg _).setCell hbase _).drew).drew)⟩

end Go.Proofs.Qxb6617322a
