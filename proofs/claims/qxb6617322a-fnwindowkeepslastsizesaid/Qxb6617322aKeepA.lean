/-
  THE WALK OF FnWindowKeepsLastSize (4): fewer values than the window holds.
-/
import Derived.Test.Qxb6617322aZZAdd
import Derived.Test.Qxb6617322aWalkA
import Derived.Test.Qxb6617322aKeepLaw
import Derived.Deep.RegionHeld
import Derived.Deep.DrawnRows
namespace Go.Proofs.Qxb6617322a
open Go.RowKit Fl
attribute [local go_sem] run_fadd run_fsub run_fmul run_store_float

set_option maxRecDepth 100000 in
set_option maxHeartbeats 1000000 in
theorem keep_a (w : World) (sz len cap b off : Nat) (xs : List Nat) (hxl : xs.length = len)
    (hc : ∀ j, j < len → w.cell? ⟨b, off + j, none⟩ = some (.float .f64 (xs.getD j 0))) (hb : b < w.heap.size) (h0 : 0 < len) (h1 : len ≤ 65536) (h2 : 1 ≤ sz) (h3 : sz ≤ 65536) (hsl : len < sz) :
    Calls Try.prog 4 #[.int .i64 sz, .slice (some ⟨b, off, none⟩) len cap] w fun e w' => e = .returned (.bool true) ∧ Below w.heap.size w w' := by
  have HI := inv_at sz xs h2
  have HX : Hid (xs.length = len) := hxl
  clear hxl
  go_enter Try.func4, Try.ntmps4
  go_wp2
  go_loopw [5, 6, 7, 8, 9] (fun v nx s q i wr => ∃ k : Nat, k ≤ len ∧ i = .int .i64 k ∧ nx = .int .i64 (stAt sz xs k).next ∧ ∃ s' q', s = .float .f64 s' ∧ q = .float .f64 q' ∧ Same s' (stAt sz xs k).s ∧ Same q' (stAt sz xs k).q ∧
      wr.ownsRow w.heap.size 22 1 v (stAt sz xs k).vs.length ((stAt sz xs k).vs.map (Value.float .f64)) ∧ Below w.heap.size w wr) (fun _ _ _ _ i _ => len - (intOf i).toNat)
  case atStart => exact ⟨0, Nat.zero_le _, rfl, rfl, 0, 0, rfl, rfl, Same.refl 0, Same.refl 0, World.ownsRow_nil _ _ _ _, Below.refl _ _⟩
  case round =>
    obtain ⟨k, hk, rfl, rfl, s', q', rfl, rfl, hs, hq, hown, hbr⟩ := hrel
    by_cases hkn : k < len
    · have hI := HI k (by rw [HX.out]; omega)
      have hck : wr.cell? ⟨b, off + k, none⟩ = some (.float .f64 (xs.getD k 0)) := (hbr.cell (by exact hb)).trans (hc k hkn)
      obtain ⟨y, hy⟩ : ∃ y, y = xs.getD k 0 := ⟨_, rfl⟩
      rw [← hy] at hck
      have hcall := zzAdd_any wr sz s' q' y w.heap.size _ (stAt sz xs k) hown (by rw [hI.len]; omega) (by
        intro hle
        rw [hI.len] at hle ⊢
        rw [hI.next]
        by_cases hks : k ≤ sz
        · rw [if_pos hks]; omega
        · rw [if_neg hks]; have := Nat.mod_lt (k - sz) (show 0 < sz by omega); omega) hbr.size hs hq
      have HS : Hid (stAt sz xs (k + 1) = (stAt sz xs k).step sz y) := by
        show _ = _
        rw [hy]; exact stAt_succ sz xs k (by rw [HX.out]; omega)
      obtain ⟨st1, hst1⟩ : ∃ st1, st1 = (stAt sz xs k).step sz y := ⟨_, rfl⟩
      rw [← hst1] at hcall
      have HS1 : Hid (st1 = stAt sz xs (k + 1)) := by show _ = _; rw [hst1, HS.out]
      clear hst1 HS hy hI HI hown
      go_wp2_with (go_at_call 14; go_must (refine hcall.mono ?_); rintro e w1 ⟨v1, s1, q1, rfl, hown1, hs1, hq1, hb1⟩)
      clear hcall
      go_roundw
      case rel => 
        rw [HS1.out] at hown1 hs1 hq1
        exact ⟨k + 1, by omega, by go_num, by rw [HS1.out], s1, q1, rfl, rfl, hs1, hq1, hown1, hbr.trans hb1⟩
      case measure => simp [intOf]; omega
    · have hkk : len = k := by omega
      subst hkk
      have hI := HI len (by rw [HX.out]; omega)
      clear HI
      generalize stAt sz xs len = st at hI hs hq hown ⊢
      obtain ⟨g, cap', hv, hbg, hgl⟩ := hown.form (by rw [hI.len]; omega)
      subst hv
      have hcv : ∀ j, j < st.vs.length → wr.cell? ⟨g, j, none⟩ = some (.float .f64 (st.vs.getD j 0)) := by
        intro j hj
        rw [hown.cellAt j (by omega), List.getElem?_map, List.getD_eq_getElem?_getD, List.getElem?_eq_getElem (by omega)]; rfl
      have hcx : ∀ j, j < len → wr.cell? ⟨b, off + j, none⟩ = some (.float .f64 (xs.getD j 0)) := fun j hj => (hbr.cell (by exact hb)).trans (hc j hj)
      have HV : Hid (∀ j, j < st.vs.length → st.vs.getD j 0 = xs.getD (j + sz * ((len - 1 - j) / sz)) 0) := by
        intro j hj; exact hI.val j (by rw [← hI.len]; exact hj)
      have hN := hI.len
      have hnx := hI.next
      have Hs : Hid (Same s' (wantS xs sz len)) := by rw [← hI.s]; exact hs
      have Hq : Hid (Same q' (wantQ xs sz len)) := by rw [← hI.q]; exact hq
      clear hI hs hq hc hown
      generalize st.vs.length = N at *
      have hN' : len = N := by omega
      subst hN'
      have hnx' : ((st.next : Nat) : Int) = 0 := by rw [hnx, if_pos (by omega)]; rfl
      clear hnx hN
      go_wp2
      go_loopw [13] (fun j w2 => ∃ (k n : Nat), k ≤ len ∧ j = .int .i64 k ∧ w2 = wr.drewN n) (fun j _ => len - (intOf j).toNat)
      case atStart => exact ⟨0, 0, Nat.zero_le _, rfl, rfl⟩
      case round =>
        obtain ⟨k, n, hk, rfl, rfl⟩ := hrel
        by_cases hkN : k < len
        · obtain ⟨D, hD⟩ : ∃ D, D = (len - 1 - k) / sz := ⟨_, rfl⟩
          obtain ⟨P, hP⟩ : ∃ P, P = sz * D := ⟨_, rfl⟩
          have hPle : k + P < len := by
            have := Nat.mul_div_le (len - 1 - k) sz
            rw [← hD, ← hP] at this
            omega
          have e1 : ((len : Int) - 1 - (k : Int)) / (sz : Int) = (D : Int) := by
            have e : ((len - 1 - k : Nat) : Int) = (len : Int) - 1 - (k : Int) := by omega
            rw [hD, Int.natCast_ediv, e]
          have e2 : (sz : Int) * (D : Int) = (P : Int) := by rw [hP]; exact (Int.natCast_mul _ _).symm
          obtain ⟨y, hy⟩ : ∃ y, y = xs.getD (k + P) 0 := ⟨_, rfl⟩
          have cx : wr.cell? ⟨b, off + (k + P), none⟩ = some (.float .f64 y) := by rw [hcx _ hPle, hy]
          have cv : wr.cell? ⟨g, k, none⟩ = some (.float .f64 y) := by
            rw [hcv k hkN, HV.out k hkN, ← hD, ← hP, ← hy]
          have hN0 : ((sz : Int) == 0) = false := by simp; omega
          have hN1 : (sz : Int) ≠ 0 := by omega
          have hDle : D ≤ 65536 := by rw [hD]; exact Nat.le_trans (Nat.div_le_self _ _) (by omega)
          have hsame : sameB y y = true := sameB_of (Same.refl y)
          clear hy hD hP hcv hcx
          go_wp2_with fail
          go_quiet ((go_at_call 12; exact (zzSame_any _ _ _).mono fun e w' hh => ⟨hh.1, _, hh.2⟩))
          go_wp2
          go_roundw
          case rel => exact ⟨k + 1, _, by omega, by go_num, rfl⟩
          case measure => simp [intOf]; omega
        · clear hcv hnx' HV
          have HW : Hid (wantS xs sz len = sumFrom xs 0 len ∧ wantQ xs sz len = sqFrom xs 0 len) := by
            constructor
            · unfold wantS; rw [if_pos hsl]
            · unfold wantQ; rw [if_pos hsl]
          go_wp2
          clear hkN hk
          generalize decide (len < sz) = R102
          generalize decide (sz < len) = R59
          generalize ((len : Int) != (len : Int)) = R64
          generalize decide (k < len) = R78
          go_loopw [14, 15, 16] (fun a c i w3 => ∃ (ix n : Nat), ix ≤ len ∧ i = .int .i64 ix ∧ w3 = wr.drewN n ∧ ∃ a' c', a = .float .f64 a' ∧ c = .float .f64 c' ∧ Same a' (sumFrom xs 0 ix) ∧ Same c' (sqFrom xs 0 ix)) (fun _ _ i _ => len - (intOf i).toNat)
          case atStart => exact ⟨0, n, Nat.zero_le _, by go_num, rfl, 0, 0, rfl, rfl, Same.refl 0, Same.refl 0⟩
          case round =>
            obtain ⟨ix, n, hk, rfl, rfl, a', c', rfl, rfl, ha, hcc⟩ := hrel
            by_cases hkN : ix < len
            · obtain ⟨y, hy⟩ : ∃ y, y = xs.getD ix 0 := ⟨_, rfl⟩
              have hi1 : (0 : Int) ≤ (ix : Int) := by omega
              have hi2 : (ix : Int) < (len : Int) := by omega
              have cx : wr.cell? ⟨b, off + ix, none⟩ = some (.float .f64 y) := by rw [hcx _ hkN, hy]
              have HY : Hid (y = xs.getD (0 + ix) 0) := by show _ = _; rw [hy, Nat.zero_add]
              clear hy hcx
              go_wp2_with fail
              go_region_held (fun w' => w'.cell? ⟨b, off + ix, none⟩ = some (.float .f64 y)) (go_keep) (fail)
              all_goals go_wp2
              go_roundw
              case rel =>
                refine ⟨ix + 1, _, by omega, by go_num, rfl, _, _, rfl, rfl, ?_, ?_⟩
                · show Same _ (addC (sumFrom xs 0 ix) (xs.getD (0 + ix) 0)); rw [← HY.out]; exact fadd_same _ ha (Same.refl y)
                · show Same _ (addC (sqFrom xs 0 ix) (mulC (xs.getD (0 + ix) 0) (xs.getD (0 + ix) 0))); rw [← HY.out]; exact fadd_same _ hcc (fmul_same _ (Same.refl y) (Same.refl y))
              case measure => simp [intOf]; omega
            · have hkk : ix = len := by omega
              rw [hkk, ← HW.out.1] at ha
              rw [hkk, ← HW.out.2] at hcc
              have g1 : sameB s' a' = true := sameB_of (Hs.out.trans ha.symm)
              have g2 : sameB q' c' = true := sameB_of (Hq.out.trans hcc.symm)
              clear hkk HW hcx
              go_wp2_with (go_at_call 12; refine (zzSame_any _ _ _).mono ?_; rintro e w' ⟨rfl, rfl⟩)
              go_ret
              exact ⟨rfl, below_drewN hbr _⟩

end Go.Proofs.Qxb6617322a
