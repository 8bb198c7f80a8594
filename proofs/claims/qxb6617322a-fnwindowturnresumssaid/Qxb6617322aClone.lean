/-
  zzClone (16): a slice that is not empty, copied into a row of the call's own.
-/
import Derived.Test.Qxb6617322aChecked
import Derived.WalkKit
import Derived.WalkLawsBesides
import Derived.WalkSpells
import Derived.Test.Qxb6617322aWin
namespace Go.Proofs.Qxb6617322a
open Go.RowKit Fl
attribute [local go_sem] run_store_float

theorem Try.info22c : (Try.prog.info? 22).map (fun i => (i.zero, i.size, i.bytes)) = some (some (.float .f64 0), 1, 8) := by kernel_rfl

def part (xs : List Nat) (k : Nat) : List Nat := xs.take k ++ List.replicate (xs.length - k) 0
theorem part_zero (xs : List Nat) : part xs 0 = List.replicate xs.length 0 := by simp [part]
theorem part_all (xs : List Nat) : part xs xs.length = xs := by simp [part]
theorem part_succ (xs : List Nat) (k : Nat) (h : k < xs.length) : (part xs k).set k (xs.getD k 0) = part xs (k + 1) := by
  unfold part
  have e : xs.length - k = (xs.length - (k + 1)) + 1 := by omega
  have hl : (xs.take k).length = k := by simp; omega
  rw [e, List.replicate_succ, List.set_append_right _ _ (by omega), hl, Nat.sub_self, List.set_cons_zero, List.take_succ_eq_append_getElem h, List.append_assoc]
  simp [List.getD_eq_getElem?_getD, List.getElem?_eq_getElem h]

set_option maxRecDepth 100000 in
set_option maxHeartbeats 400000 in
theorem clone_any (w : World) (len cap b off : Nat) (xs : List Nat) (hxl : xs.length = len)
    (hc : ∀ j, j < len → w.cell? ⟨b, off + j, none⟩ = some (.float .f64 (xs.getD j 0))) (hb : b < w.heap.size) (h1 : len ≤ 65536) :
    Calls Try.prog 16 #[.slice (some ⟨b, off, none⟩) len cap] w fun e w' => ∃ v, e = .returned v ∧ w'.ownsRow w.heap.size 22 1 v xs.length (xs.map (Value.float .f64)) ∧ Below w.heap.size w w' := by
  obtain ⟨i0, hi, hz0, hz1, hz2⟩ := info_parts Try.info22c
  have hnil : ∀ W, (binOp .eql 34 (.slice (some ⟨b, off, none⟩) len cap) (.slice none 0 0)).run Try.prog W = .ok (.bool false) W := fun W => Lib.run_eql_slice_nil W _ _ _ _ _ _ _ Try.underlying34
  have HX : Hid (xs.length = len) := hxl
  clear hxl
  go_enter Try.func16, Try.ntmps16
  go_wp2_with (at_make; go_must (refine wpList_make_full _ rfl (.tmp 8) (.tmp 8) 34 rfl w.heap.size 22 i0 (.float .f64 0) 1 Try.underlying34 hi hz0 hz1 .i64 .i64 _ _ len rfl rfl rfl rfl (by rw [hz2]; omega) (by unfold maxLen; omega) (Nat.le_refl _) ?_); intro w1 hown1 hgrow1)
  have hb1 : Below w.heap.size w w1 := (Below.refl _ _).grown hgrow1 (Nat.le_refl _) (fun k hk => by cases hk)
  have hown0 : w1.ownsRow w.heap.size 22 1 (.slice (some ⟨w.heap.size, 0, none⟩) len len) len ((part xs 0).map (Value.float .f64)) := by
    rw [part_zero, HX.out, List.map_replicate]
    have := hown1
    rw [Nat.mul_one] at this
    rw [show (Value.float .f64 0).cells = #[Value.float .f64 0] from rfl, toList_madeCells_one] at this
    exact this
  clear hown1 hgrow1 hi hz0 hz1 hz2 hnil
  go_loopw [4] (fun i wr => ∃ k : Nat, k ≤ len ∧ i = .int .i64 k ∧ wr.ownsRow w.heap.size 22 1 (.slice (some ⟨w.heap.size, 0, none⟩) len len) len ((part xs k).map (Value.float .f64)) ∧ Below w.heap.size w wr) (fun i _ => len - (intOf i).toNat)
  case atStart => exact ⟨0, Nat.zero_le _, rfl, hown0, hb1⟩
  case round =>
    obtain ⟨k, hk, rfl, hown, hbr⟩ := hrel
    by_cases hkn : k < len
    · obtain ⟨y, hy⟩ : ∃ y, y = xs.getD k 0 := ⟨_, rfl⟩
      have cx : wr.cell? ⟨b, off + k, none⟩ = some (.float .f64 y) := by rw [hy]; exact (hbr.cell (by exact hb)).trans (hc k hkn)
      have hpl : (part xs k).length = len := by have := hown.1; simpa using this
      obtain ⟨o, cg⟩ : ∃ o, wr.cell? ⟨w.heap.size, k, none⟩ = some (.float .f64 o) := by
        rw [hown.cellAt k (by omega), List.getElem?_map, List.getElem?_eq_getElem (by omega)]
        exact ⟨_, rfl⟩
      have fg : wr.frozen? ⟨w.heap.size, k, none⟩ = false := hown.frozenAt k
      have hown' := own_put hown k y
      rw [hy, part_succ xs k (by rw [HX.out]; exact hkn), ← hy] at hown'
      have HN : Hid (∀ W : World, W = wr.setCell ⟨w.heap.size, k, none⟩ (.float .f64 y) → W.ownsRow w.heap.size 22 1 (.slice (some ⟨w.heap.size, 0, none⟩) len len) len ((part xs (k + 1)).map (Value.float .f64)) ∧ Below w.heap.size w W) := by
        rintro W rfl
        exact ⟨hown', hbr.setCell (Nat.le_refl _) _⟩
      clear hy hpl hown hown' hown0
      go_wp2
      go_roundw
      case rel => exact ⟨k + 1, by omega, by go_num, (HN.out _ rfl).1, (HN.out _ rfl).2⟩
      case measure => simp [intOf]; omega
    · have hkk : len = k := by omega
      subst hkk
      have e := part_all xs
      rw [HX.out] at e
      rw [e] at hown
      clear e
      go_wp2
      go_ret
      exact ⟨_, rfl, by rw [HX.out]; exact hown, hbr⟩

end Go.Proofs.Qxb6617322a
