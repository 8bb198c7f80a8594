/-
  THE WALK OF FnWindowTurnResums (5).
-/
import Derived.Test.Qxb6617322aZZAdd
import Derived.Test.Qxb6617322aWalkA
import Derived.Test.Qxb6617322aClone
import Derived.Test.Qxb6617322aTurnLaw
namespace Go.Proofs.Qxb6617322a
open Go.RowKit Fl
attribute [local go_sem] run_fadd run_fsub run_fmul run_store_float

set_option maxRecDepth 100000 in
set_option maxHeartbeats 1000000 in
theorem turn_main (w : World) (size : Int) (L cap b off : Nat) (vals : List Nat) (hvl : vals.length = L) (nx s q : Nat) (n cap2 b2 off2 : Nat) (xs : List Nat) (hxl : xs.length = n)
    (hcv : ∀ j, j < L → w.cell? ⟨b, off + j, none⟩ = some (.float .f64 (vals.getD j 0))) (hb : b < w.heap.size)
    (hcx : ∀ j, j < n → w.cell? ⟨b2, off2 + j, none⟩ = some (.float .f64 (xs.getD j 0))) (hb2 : b2 < w.heap.size)
    (h1 : 1 ≤ L) (h2 : L ≤ 65536) (h3 : size ≤ (L : Int)) (h4 : nx < L) (h5 : n + nx = L) :
    Calls Try.prog 5 #[.int .i64 size, .slice (some ⟨b, off, none⟩) L cap, .int .i64 nx, .float .f64 s, .float .f64 q, .slice (some ⟨b2, off2, none⟩) n cap2] w
      fun e w' => e = .returned (.bool true) ∧ Below w.heap.size w w' := by
  have HI := tinv_at size vals nx s q xs (by omega) (by omega) (by omega)
  have hclone := clone_any w L cap b off vals hvl hcv hb h2
  have HX : Hid (xs.length = n) := hxl
  have HVL : Hid (vals.length = L) := hvl
  clear hxl hvl
  go_enter Try.func5, Try.ntmps5
  go_wp2_with (first | (go_at_call 16; go_must (refine hclone.mono ?_); rintro e w1 ⟨v1, rfl, hown1, hb1⟩) | go_in)
  clear hclone
  go_loopw [13, 14, 15, 16, 17] (fun v nxx s' q' i wr => ∃ k : Nat, k ≤ n ∧ i = .int .i64 k ∧ nxx = .int .i64 (tAt size ⟨vals, nx, s, q⟩ xs k).next ∧ ∃ s1 q1, s' = .float .f64 s1 ∧ q' = .float .f64 q1 ∧ Same s1 (tAt size ⟨vals, nx, s, q⟩ xs k).s ∧ Same q1 (tAt size ⟨vals, nx, s, q⟩ xs k).q ∧
      wr.ownsRow w.heap.size 22 1 v (tAt size ⟨vals, nx, s, q⟩ xs k).vs.length ((tAt size ⟨vals, nx, s, q⟩ xs k).vs.map (Value.float .f64)) ∧ Below w.heap.size w wr) (fun _ _ _ _ i _ => n - (intOf i).toNat)
  case atStart => exact ⟨0, Nat.zero_le _, rfl, rfl, s, q, rfl, rfl, Same.refl s, Same.refl q, hown1, hb1⟩
  case round =>
    obtain ⟨k, hk, rfl, rfl, s', q', rfl, rfl, hs, hq, hown, hbr⟩ := hrel
    clear hown1 hb1
    have hI := HI k (by rw [HX.out]; omega)
    by_cases hkn : k < n
    · have hck : wr.cell? ⟨b2, off2 + k, none⟩ = some (.float .f64 (xs.getD k 0)) := (hbr.cell (by exact hb2)).trans (hcx k hkn)
      obtain ⟨y, hy⟩ : ∃ y, y = xs.getD k 0 := ⟨_, rfl⟩
      rw [← hy] at hck
      have hcall := zzAdd_any wr size s' q' y w.heap.size _ (tAt size ⟨vals, nx, s, q⟩ xs k) hown (by rw [hI.len, HVL.out]; omega) (by
        intro _
        rw [hI.len, HVL.out, hI.next (by rw [HX.out]; exact hkn)]
        omega) hbr.size hs hq
      have HS : Hid (tAt size ⟨vals, nx, s, q⟩ xs (k + 1) = (tAt size ⟨vals, nx, s, q⟩ xs k).step size y) := by
        show _ = _
        rw [hy]; exact tAt_succ _ _ xs k (by rw [HX.out]; omega)
      obtain ⟨st1, hst1⟩ : ∃ st1, st1 = (tAt size ⟨vals, nx, s, q⟩ xs k).step size y := ⟨_, rfl⟩
      rw [← hst1] at hcall
      have HS1 : Hid (st1 = tAt size ⟨vals, nx, s, q⟩ xs (k + 1)) := by show _ = _; rw [hst1, HS.out]
      clear hst1 HS hy hI HI hown
      go_wp2_with (go_at_call 14; go_must (refine hcall.mono ?_); rintro e w2 ⟨v1, s1, q1, rfl, hown1, hs1, hq1, hb1⟩)
      clear hcall
      go_roundw
      case rel =>
        rw [HS1.out] at hown1 hs1 hq1
        exact ⟨k + 1, by omega, by go_num, by rw [HS1.out], s1, q1, rfl, rfl, hs1, hq1, hown1, hbr.trans hb1⟩
      case measure => simp [intOf]; omega
    · have hkk : n = k := by omega
      subst hkk
      clear HI
      generalize tAt size ⟨vals, nx, s, q⟩ xs n = st at hI hs hq hown ⊢
      obtain ⟨g, cap', hv, hbg, hgl⟩ := hown.form (by rw [hI.len, HVL.out]; omega)
      subst hv
      have hL : st.vs.length = L := hI.len.trans HVL.out
      rw [hL] at hown ⊢
      have hcw : ∀ j, j < L → wr.cell? ⟨g, j, none⟩ = some (.float .f64 (st.vs.getD j 0)) := by
        intro j hj
        rw [hown.cellAt j (by omega), List.getElem?_map, List.getD_eq_getElem?_getD, List.getElem?_eq_getElem (by omega)]; rfl
      have hcx' : ∀ j, j < n → wr.cell? ⟨b2, off2 + j, none⟩ = some (.float .f64 (xs.getD j 0)) := fun j hj => (hbr.cell (by exact hb2)).trans (hcx j hj)
      have hcv' : ∀ j, j < L → wr.cell? ⟨b, off + j, none⟩ = some (.float .f64 (vals.getD j 0)) := fun j hj => (hbr.cell (by exact hb)).trans (hcv j hj)
      have HV : Hid (∀ j, j < L → st.vs.getD j 0 = if nx ≤ j then xs.getD (j - nx) 0 else vals.getD j 0) := by
        intro j hj
        rw [hI.val j (by rw [HVL.out]; exact hj)]
        by_cases hnj : nx ≤ j
        · rw [if_pos hnj, if_pos (by omega)]
        · rw [if_neg hnj, if_neg (by omega)]
      obtain ⟨hf1, hf2, hf3⟩ := hI.fin HX.out.symm
      have Hs : Hid (Same s' (sumFrom st.vs 0 L)) := by
        have e := sumC_from st.vs L (by omega)
        rw [List.take_of_length_le (by omega)] at e
        show Same _ _
        rw [← e, ← hf2]; exact hs
      have Hq : Hid (Same q' (sqFrom st.vs 0 L)) := by
        have e := sqC_from st.vs L (by omega)
        rw [List.take_of_length_le (by omega)] at e
        show Same _ _
        rw [← e, ← hf3]; exact hq
      rw [show ((st.next : Nat) : Int) = 0 by rw [hf1]; rfl]
      clear hI hs hq hown hf1 hf2 hf3 hcx hcv hL hk hkn
      go_wp2
      go_loopw [18, 19, 20, 21] (fun a c i _ w3 => ∃ (k m : Nat), k ≤ L ∧ i = .int .i64 k ∧ w3 = wr.drewN m ∧ ∃ a' c', a = .float .f64 a' ∧ c = .float .f64 c' ∧ Same a' (sumFrom st.vs 0 k) ∧ Same c' (sqFrom st.vs 0 k)) (fun _ _ i _ _ => L - (intOf i).toNat)
      case atStart => exact ⟨0, 0, Nat.zero_le _, rfl, rfl, 0, 0, rfl, rfl, Same.refl 0, Same.refl 0⟩
      case round =>
        obtain ⟨k, m, hk, rfl, rfl, a', c', rfl, rfl, ha, hcc⟩ := hrel
        by_cases hkL : k < L
        · obtain ⟨y, hy⟩ : ∃ y, y = st.vs.getD k 0 := ⟨_, rfl⟩
          have cw : wr.cell? ⟨g, k, none⟩ = some (.float .f64 y) := by rw [hcw k hkL, hy]
          have hsame : sameB y y = true := sameB_of (Same.refl y)
          have HY : Hid (y = st.vs.getD (0 + k) 0) := by show _ = _; rw [hy, Nat.zero_add]
          by_cases hnk : nx ≤ k
          · have cx : wr.cell? ⟨b2, off2 + (k - nx), none⟩ = some (.float .f64 y) := by rw [hcx' _ (by omega), hy, HV.out k hkL, if_pos hnk]
            obtain ⟨z, cz⟩ : ∃ z, wr.cell? ⟨b, off + k, none⟩ = some (.float .f64 z) := ⟨_, hcv' k hkL⟩
            clear hcw hcx' hcv' HV hy
            go_wp2_with (go_at_call 12; refine (zzSame_any _ _ _).mono ?_; rintro e w' ⟨rfl, rfl⟩)
            go_roundw
            case rel =>
              refine ⟨k + 1, _, by omega, by go_num, rfl, _, _, rfl, rfl, ?_, ?_⟩
              · show Same _ (addC (sumFrom st.vs 0 k) (st.vs.getD (0 + k) 0)); rw [← HY.out]; exact fadd_same _ ha (Same.refl y)
              · show Same _ (addC (sqFrom st.vs 0 k) (mulC (st.vs.getD (0 + k) 0) (st.vs.getD (0 + k) 0))); rw [← HY.out]; exact fadd_same _ hcc (fmul_same _ (Same.refl y) (Same.refl y))
            case measure => simp [intOf]; omega
          · have cz : wr.cell? ⟨b, off + k, none⟩ = some (.float .f64 y) := by rw [hcv' k hkL, hy, HV.out k hkL, if_neg hnk]
            clear hcw hcx' hcv' HV hy
            go_wp2_with (go_at_call 12; refine (zzSame_any _ _ _).mono ?_; rintro e w' ⟨rfl, rfl⟩)
            go_roundw
            case rel =>
              refine ⟨k + 1, _, by omega, by go_num, rfl, _, _, rfl, rfl, ?_, ?_⟩
              · show Same _ (addC (sumFrom st.vs 0 k) (st.vs.getD (0 + k) 0)); rw [← HY.out]; exact fadd_same _ ha (Same.refl y)
              · show Same _ (addC (sqFrom st.vs 0 k) (mulC (st.vs.getD (0 + k) 0) (st.vs.getD (0 + k) 0))); rw [← HY.out]; exact fadd_same _ hcc (fmul_same _ (Same.refl y) (Same.refl y))
            case measure => simp [intOf]; omega
        · have hkk : k = L := by omega
          rw [hkk] at ha hcc
          have g1 : sameB s' a' = true := sameB_of (Hs.out.trans ha.symm)
          have g2 : sameB q' c' = true := sameB_of (Hq.out.trans hcc.symm)
          clear hkk hcw hcx' hcv' HV
          go_wp2_with (go_at_call 12; refine (zzSame_any _ _ _).mono ?_; rintro e w' ⟨rfl, rfl⟩)
          go_ret
          exact ⟨rfl, below_drewN hbr _⟩

end Go.Proofs.Qxb6617322a
