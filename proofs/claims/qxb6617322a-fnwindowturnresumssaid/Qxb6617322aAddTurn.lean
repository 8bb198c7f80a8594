/-
  THE WALK OF (*window).add (18) ON A FULL WINDOW, its turn ended: the sums are taken afresh.
-/
import Derived.Test.Qxb6617322aChecked
import Derived.WalkKit
import Derived.WalkLawsBesides
import Derived.WalkSpells
import Derived.Deep.QuietTactic
import Derived.BigQuiet
import Derived.RegionTactic
import Derived.Test.Qxb6617322aWin
import Derived.Test.Qxb6617322aPlain
namespace Go.Proofs.Qxb6617322a
open Go.RowKit Fl
attribute [local go_sem] run_fadd run_fsub run_fmul run_store_float

set_option maxRecDepth 100000 in
set_option maxHeartbeats 1000000 in
theorem add_turn (w : World) (B : Nat) (size : Int) (next s q x n cap base g : Nat) (xs : List Nat)
    (hW : Win w B size (.slice (some ⟨g, 0, none⟩) n cap) next s q) (hown : w.ownsRow base 22 1 (.slice (some ⟨g, 0, none⟩) n cap) n (xs.map (Value.float .f64))) (hgB : g ≠ B)
    (hlt : size ≤ (n : Int)) (hn : n ≤ 65536) (hnx : next + 1 = n) (hbase : base ≤ B) (hbg : base ≤ g) :
    Calls Try.prog 18 #[.pointer (some ⟨B, 0, none⟩), .float .f64 x] w fun e w' => e = .returned (.tuple #[]) ∧ ∃ s' q', Win w' B size (.slice (some ⟨g, 0, none⟩) n cap) 0 s' q' ∧
      w'.ownsRow base 22 1 (.slice (some ⟨g, 0, none⟩) n cap) n ((xs.set next x).map (Value.float .f64)) ∧ Same s' (sumC (xs.set next x)) ∧ Same q' (sqC (xs.set next x)) ∧ Below base w w' := by
  obtain ⟨c0, c1, c2, c3, c4⟩ := hW.cell
  obtain ⟨f0, f1, f2, f3, f4⟩ := hW.frozen
  have hBl := hW.lt
  have hxl : xs.length = n := by have := hown.1; simpa using this
  obtain ⟨old, hold⟩ : ∃ old, old = xs.getD next 0 := ⟨_, rfl⟩
  have cg : w.cell? ⟨g, next, none⟩ = some (.float .f64 old) := by
    rw [hown.cellAt next (by omega), hold, List.getElem?_map, List.getD_eq_getElem?_getD, List.getElem?_eq_getElem (by omega)]; rfl
  have fg : w.frozen? ⟨g, next, none⟩ = false := hown.frozenAt next
  have hm : ((next : Int) + 1) % (n : Int) = 0 := by
    have e : (next : Int) + 1 = (n : Int) := by omega
    rw [e, Int.emod_self]
  have HO : Hid (old = xs.getD next 0) := hold
  have HX : Hid (xs.length = n) := hxl
  clear hold hxl
  go_enter Try.func18, Try.ntmps18
  go_wp2_with fail
  go_quiet (fail)
  go_wp2_with fail
  go_quiet (fail)
  go_wp2_with fail
  go_region
  all_goals go_wp2_with fail
  all_goals go_region
  all_goals go_wp2_with fail
  have hb : (Value.slice (some ⟨g, 0, none⟩) n cap).ownBlock ≠ some B := by simpa [Value.ownBlock] using hgB
  obtain ⟨ys, hys⟩ : ∃ ys, ys = xs.set next x := ⟨_, rfl⟩
  have HL : Hid (ys.length = n) := by show ys.length = n; rw [hys, List.length_set]; exact HX.out
  go_loopw [119] (fun i wr => ∃ k : Nat, k ≤ n ∧ i = .int .i64 k ∧ ∃ s' q', Win wr B size (.slice (some ⟨g, 0, none⟩) n cap) 0 s' q' ∧ wr.ownsRow base 22 1 (.slice (some ⟨g, 0, none⟩) n cap) n (ys.map (Value.float .f64)) ∧
    Same s' (sumC (ys.take k)) ∧ Same q' (sqC (ys.take k)) ∧ Below base w wr) (fun i _ => n - (intOf i).toNat)
  case atStart =>
    exact ⟨0, Nat.zero_le _, rfl, _, _, (((((((((hW.drewN _).set3 _).drewN _).set4 _).other _ (Ne.symm hgB)).set2 _).set3 _).set4 _).drew).drew,
      own_drew (own_drew (own_set (own_set (own_set (by rw [hys]; exact own_put (own_set (own_drewN (own_set (own_drewN hown _) hb _) _) hb _) _ _) hb _) hb _) hb _)), Same.refl 0, Same.refl 0,
      ((((((((below_drewN ((below_drewN (Below.refl base w) _).setCell hbase _) _).setCell hbase _).setCell hbg _).setCell hbase _).setCell hbase _).setCell hbase _).drew).drew)⟩
  case round =>
    obtain ⟨k, hk, rfl, s', q', hWr, hor, hss, hqq, hbr⟩ := hrel
    clear c0 c1 c2 c3 c4 f0 f1 f2 f3 f4 cg fg hm
    obtain ⟨c0, c1, c2, c3, c4⟩ := hWr.cell
    obtain ⟨f0, f1, f2, f3, f4⟩ := hWr.frozen
    by_cases hkn : k < n
    · obtain ⟨y, hy⟩ : ∃ y, y = ys.getD k 0 := ⟨_, rfl⟩
      have cg : wr.cell? ⟨g, k, none⟩ = some (.float .f64 y) := by
        rw [hor.cellAt k (by omega), hy, List.getElem?_map, List.getD_eq_getElem?_getD, List.getElem?_eq_getElem (by have := HL.out; omega)]; rfl
      have HT : Hid (ys.take (k + 1) = ys.take k ++ [y]) := by
        show _ = _
        rw [List.take_succ_eq_append_getElem (by have := HL.out; omega), hy, List.getD_eq_getElem?_getD, List.getElem?_eq_getElem (by have := HL.out; omega)]; rfl
      clear hy hys
      go_wp2
      go_roundw
      case rel =>
        refine ⟨k + 1, by omega, by go_num, _, _, ((((hWr.drewN _).set3 _).drewN _).set4 _), own_set (own_drewN (own_set (own_drewN hor _) hb _) _) hb _, ?_, ?_, (below_drewN ((below_drewN hbr _).setCell hbase _) _).setCell hbase _⟩
        · rw [HT.out, sumC_snoc]; exact fadd_same _ hss (Same.refl y)
        · rw [HT.out, sqC_snoc]; exact fadd_same _ hqq (fmul_same _ (Same.refl y) (Same.refl y))
      case measure => simp [intOf]; omega
    · have hkk : k = n := by omega
      subst hkk
      go_wp2
      refine bodyPost_end (results_none rfl _ _ _) rfl ?_
      rw [← hys]
      rw [List.take_of_length_le (by rw [HL.out]; exact Nat.le_refl _)] at hss hqq
      exact ⟨rfl, s', q', hWr, hor, hss, hqq, hbr⟩

end Go.Proofs.Qxb6617322a
