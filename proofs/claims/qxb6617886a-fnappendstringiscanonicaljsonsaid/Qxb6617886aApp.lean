/-
  THE WALK OF appendString (11), onto a row that the call owns.
-/
import Derived.Test.Qxb6617886aChecked
import Derived.Test.Qxb6617886aOwn
import Derived.Deep.RegionLaw
import Derived.BigRegion
import Derived.Deep.DrawnRows
namespace Go.Proofs.Qxb6617886a
open Go.RowKit

theorem Try.info5 : (Try.prog.info? 5).map (fun i => (i.zero, i.size, i.bytes)) = some (some (.int .u8 0), 1, 1) := by kernel_rfl

/-- The digits, as the text lays them. -/
theorem and15 (c : Nat) (h : c < 32) : bits BinOp.and IntKind.u8 (c : Int) 15 = ((c % 16 : Nat) : Int) := by
  have : c = 0 ∨ c = 1 ∨ c = 2 ∨ c = 3 ∨ c = 4 ∨ c = 5 ∨ c = 6 ∨ c = 7 ∨ c = 8 ∨ c = 9 ∨ c = 10 ∨ c = 11 ∨ c = 12 ∨ c = 13 ∨ c = 14 ∨ c = 15 ∨ c = 16 ∨ c = 17 ∨ c = 18 ∨ c = 19 ∨ c = 20 ∨ c = 21 ∨ c = 22 ∨ c = 23 ∨ c = 24 ∨ c = 25 ∨ c = 26 ∨ c = 27 ∨ c = 28 ∨ c = 29 ∨ c = 30 ∨ c = 31 := by omega
  rcases this with rfl | rfl | rfl | rfl | rfl | rfl | rfl | rfl | rfl | rfl | rfl | rfl | rfl | rfl | rfl | rfl | rfl | rfl | rfl | rfl | rfl | rfl | rfl | rfl | rfl | rfl | rfl | rfl | rfl | rfl | rfl | rfl <;> decide +kernel
theorem digit (p : Nat) (h : p < 16) : (({ data := #[48, 49, 50, 51, 52, 53, 54, 55, 56, 57, 97, 98, 99, 100, 101, 102] } : ByteArray)[p]'h).toNat = hexd p := by
  have : p = 0 ∨ p = 1 ∨ p = 2 ∨ p = 3 ∨ p = 4 ∨ p = 5 ∨ p = 6 ∨ p = 7 ∨ p = 8 ∨ p = 9 ∨ p = 10 ∨ p = 11 ∨ p = 12 ∨ p = 13 ∨ p = 14 ∨ p = 15 := by omega
  rcases this with rfl | rfl | rfl | rfl | rfl | rfl | rfl | rfl | rfl | rfl | rfl | rfl | rfl | rfl | rfl | rfl <;> rfl

set_option maxRecDepth 100000 in
set_option maxHeartbeats 1000000 in
theorem app_any (s : ByteArray) (w : World) (v : Value) (xs : List Nat) (base : Nat) (hown : w.ownsRow base 5 1 v xs.length (row xs)) (hbase : base ≤ w.heap.size) (h1 : xs.length ≤ 1048576) (h2 : s.size ≤ 1048576) :
    Calls Try.prog 11 #[v, .string s] w fun e w' => ∃ v', e = .returned v' ∧ Own base w v w' v' (xs ++ lit (bytes s)) := by
  obtain ⟨i0, hi, hz0, hz1, hz2⟩ := info_parts Try.info5
  have ho := Own.start hown
  go_enter Try.func11, Try.ntmps11
  go_wp2_with (at_builtin; go_must (refine wpList_append_lies _ (by rfl) _ _ 22 (by rfl) base 5 i0 (.int .u8 0) 1 1 Try.underlying22 hi hz0 hz1 hz2 rfl (by decide) _ xs.length (row xs) (by rfl) (ho.own.alloc _) ⟨w.heap.size, 0, none⟩ 1 1 [.int .u8 34] (by rfl) (by rfl) (World.news_of_block (cs := #[.int .u8 34]) (t := 5) (fr := (0, 0)) (heap_alloc_new _ _)) (by simp [Value.oneCell']) (by decide) (by unfold maxLen; omega) (by omega) (by have := ho.grown.size; simp; omega) (w.heap.size + 1) (by simp) ?_); intro g cap w1 hown1 hgrow1 hat1 hlt1)
  have hr0 := ho.append _ 0 [34] 1 g cap rfl hown1 hgrow1 hat1
  clear hown1 hgrow1 hat1 hlt1 ho
  go_loopw [0, 5] (fun vv i wr => ∃ k : Nat, k ≤ s.size ∧ i = .int .i64 k ∧ ∃ ys, Hid (ys = xs ++ 34 :: body ((bytes s).take k)) ∧ Own base w v wr vv ys) (fun _ i _ => s.size - (intOf i).toNat)
  case atStart => exact ⟨0, Nat.zero_le _, rfl, _, rfl, hr0⟩
  case round =>
    obtain ⟨k, hk, rfl, ys, HY, hr⟩ := hrel
    have hyl : ys.length ≤ 1048577 + 6 * k := by
      have e := HY.out
      have hb := (body_length ((bytes s).take k)).2
      have hl : ((bytes s).take k).length ≤ k := List.length_take_le _ _
      rw [e]; simp only [List.length_append, List.length_cons]; omega
    clear hr0
    by_cases hkn : k < s.size
    · obtain ⟨c, hc⟩ : ∃ c, (s[k]'hkn).toNat = c := ⟨_, rfl⟩
      have hc255 : c < 256 := by rw [← hc]; exact UInt8.toNat_lt _
      have HT : Hid ((bytes s).take (k + 1) = (bytes s).take k ++ [c]) := by show _ = _; rw [← hc]; exact bytes_take s k hkn
      by_cases c0 : c = 34
      · subst c0
        go_wp2_with (at_builtin; go_must (refine wpList_append_lies _ (by rfl) _ _ 22 (by rfl) base 5 i0 (.int .u8 0) 1 1 Try.underlying22 hi hz0 hz1 hz2 rfl (by decide) _ ys.length (row ys) (by rfl) (hr.own.alloc _) ⟨wr.heap.size, 0, none⟩ 2 2 [.int .u8 92, .int .u8 34] (by rfl) (by rfl) (World.news_of_block (cs := #[.int .u8 92, .int .u8 34]) (t := 5) (fr := (0, 0)) (heap_alloc_new _ _)) (by simp [Value.oneCell']) (by decide) (by unfold maxLen; omega) (by omega) (by have := hr.grown.size; simp; omega) (wr.heap.size + 1) (by simp) ?_); intro g cap w1 hown1 hgrow1 hat1 hlt1)
        have hr1 := hr.append _ 0 [92, 34] 2 g cap rfl hown1 hgrow1 hat1
        clear hown1 hgrow1 hat1 hlt1 hr
        try go_wp2
        go_roundw
        case rel => exact ⟨k + 1, by omega, by go_num, ys ++ [92, 34], by show _ = _; rw [HT.out]; exact body_step HY.out (rfl), hr1⟩
        case measure => simp [intOf]; omega
      by_cases c1 : c = 92
      · subst c1
        go_wp2_with (at_builtin; go_must (refine wpList_append_lies _ (by rfl) _ _ 22 (by rfl) base 5 i0 (.int .u8 0) 1 1 Try.underlying22 hi hz0 hz1 hz2 rfl (by decide) _ ys.length (row ys) (by rfl) (hr.own.alloc _) ⟨wr.heap.size, 0, none⟩ 2 2 [.int .u8 92, .int .u8 92] (by rfl) (by rfl) (World.news_of_block (cs := #[.int .u8 92, .int .u8 92]) (t := 5) (fr := (0, 0)) (heap_alloc_new _ _)) (by simp [Value.oneCell']) (by decide) (by unfold maxLen; omega) (by omega) (by have := hr.grown.size; simp; omega) (wr.heap.size + 1) (by simp) ?_); intro g cap w1 hown1 hgrow1 hat1 hlt1)
        have hr1 := hr.append _ 0 [92, 92] 2 g cap rfl hown1 hgrow1 hat1
        clear hown1 hgrow1 hat1 hlt1 hr
        try go_wp2
        go_roundw
        case rel => exact ⟨k + 1, by omega, by go_num, ys ++ [92, 92], by show _ = _; rw [HT.out]; exact body_step HY.out (rfl), hr1⟩
        case measure => simp [intOf]; omega
      by_cases c2 : c = 8
      · subst c2
        go_wp2_with (at_builtin; go_must (refine wpList_append_lies _ (by rfl) _ _ 22 (by rfl) base 5 i0 (.int .u8 0) 1 1 Try.underlying22 hi hz0 hz1 hz2 rfl (by decide) _ ys.length (row ys) (by rfl) (hr.own.alloc _) ⟨wr.heap.size, 0, none⟩ 2 2 [.int .u8 92, .int .u8 98] (by rfl) (by rfl) (World.news_of_block (cs := #[.int .u8 92, .int .u8 98]) (t := 5) (fr := (0, 0)) (heap_alloc_new _ _)) (by simp [Value.oneCell']) (by decide) (by unfold maxLen; omega) (by omega) (by have := hr.grown.size; simp; omega) (wr.heap.size + 1) (by simp) ?_); intro g cap w1 hown1 hgrow1 hat1 hlt1)
        have hr1 := hr.append _ 0 [92, 98] 2 g cap rfl hown1 hgrow1 hat1
        clear hown1 hgrow1 hat1 hlt1 hr
        try go_wp2
        go_roundw
        case rel => exact ⟨k + 1, by omega, by go_num, ys ++ [92, 98], by show _ = _; rw [HT.out]; exact body_step HY.out (rfl), hr1⟩
        case measure => simp [intOf]; omega
      by_cases c3 : c = 12
      · subst c3
        go_wp2_with (at_builtin; go_must (refine wpList_append_lies _ (by rfl) _ _ 22 (by rfl) base 5 i0 (.int .u8 0) 1 1 Try.underlying22 hi hz0 hz1 hz2 rfl (by decide) _ ys.length (row ys) (by rfl) (hr.own.alloc _) ⟨wr.heap.size, 0, none⟩ 2 2 [.int .u8 92, .int .u8 102] (by rfl) (by rfl) (World.news_of_block (cs := #[.int .u8 92, .int .u8 102]) (t := 5) (fr := (0, 0)) (heap_alloc_new _ _)) (by simp [Value.oneCell']) (by decide) (by unfold maxLen; omega) (by omega) (by have := hr.grown.size; simp; omega) (wr.heap.size + 1) (by simp) ?_); intro g cap w1 hown1 hgrow1 hat1 hlt1)
        have hr1 := hr.append _ 0 [92, 102] 2 g cap rfl hown1 hgrow1 hat1
        clear hown1 hgrow1 hat1 hlt1 hr
        try go_wp2
        go_roundw
        case rel => exact ⟨k + 1, by omega, by go_num, ys ++ [92, 102], by show _ = _; rw [HT.out]; exact body_step HY.out (rfl), hr1⟩
        case measure => simp [intOf]; omega
      by_cases c4 : c = 10
      · subst c4
        go_wp2_with (at_builtin; go_must (refine wpList_append_lies _ (by rfl) _ _ 22 (by rfl) base 5 i0 (.int .u8 0) 1 1 Try.underlying22 hi hz0 hz1 hz2 rfl (by decide) _ ys.length (row ys) (by rfl) (hr.own.alloc _) ⟨wr.heap.size, 0, none⟩ 2 2 [.int .u8 92, .int .u8 110] (by rfl) (by rfl) (World.news_of_block (cs := #[.int .u8 92, .int .u8 110]) (t := 5) (fr := (0, 0)) (heap_alloc_new _ _)) (by simp [Value.oneCell']) (by decide) (by unfold maxLen; omega) (by omega) (by have := hr.grown.size; simp; omega) (wr.heap.size + 1) (by simp) ?_); intro g cap w1 hown1 hgrow1 hat1 hlt1)
        have hr1 := hr.append _ 0 [92, 110] 2 g cap rfl hown1 hgrow1 hat1
        clear hown1 hgrow1 hat1 hlt1 hr
        try go_wp2
        go_roundw
        case rel => exact ⟨k + 1, by omega, by go_num, ys ++ [92, 110], by show _ = _; rw [HT.out]; exact body_step HY.out (rfl), hr1⟩
        case measure => simp [intOf]; omega
      by_cases c5 : c = 13
      · subst c5
        go_wp2_with (at_builtin; go_must (refine wpList_append_lies _ (by rfl) _ _ 22 (by rfl) base 5 i0 (.int .u8 0) 1 1 Try.underlying22 hi hz0 hz1 hz2 rfl (by decide) _ ys.length (row ys) (by rfl) (hr.own.alloc _) ⟨wr.heap.size, 0, none⟩ 2 2 [.int .u8 92, .int .u8 114] (by rfl) (by rfl) (World.news_of_block (cs := #[.int .u8 92, .int .u8 114]) (t := 5) (fr := (0, 0)) (heap_alloc_new _ _)) (by simp [Value.oneCell']) (by decide) (by unfold maxLen; omega) (by omega) (by have := hr.grown.size; simp; omega) (wr.heap.size + 1) (by simp) ?_); intro g cap w1 hown1 hgrow1 hat1 hlt1)
        have hr1 := hr.append _ 0 [92, 114] 2 g cap rfl hown1 hgrow1 hat1
        clear hown1 hgrow1 hat1 hlt1 hr
        try go_wp2
        go_roundw
        case rel => exact ⟨k + 1, by omega, by go_num, ys ++ [92, 114], by show _ = _; rw [HT.out]; exact body_step HY.out (rfl), hr1⟩
        case measure => simp [intOf]; omega
      by_cases c6 : c = 9
      · subst c6
        go_wp2_with (at_builtin; go_must (refine wpList_append_lies _ (by rfl) _ _ 22 (by rfl) base 5 i0 (.int .u8 0) 1 1 Try.underlying22 hi hz0 hz1 hz2 rfl (by decide) _ ys.length (row ys) (by rfl) (hr.own.alloc _) ⟨wr.heap.size, 0, none⟩ 2 2 [.int .u8 92, .int .u8 116] (by rfl) (by rfl) (World.news_of_block (cs := #[.int .u8 92, .int .u8 116]) (t := 5) (fr := (0, 0)) (heap_alloc_new _ _)) (by simp [Value.oneCell']) (by decide) (by unfold maxLen; omega) (by omega) (by have := hr.grown.size; simp; omega) (wr.heap.size + 1) (by simp) ?_); intro g cap w1 hown1 hgrow1 hat1 hlt1)
        have hr1 := hr.append _ 0 [92, 116] 2 g cap rfl hown1 hgrow1 hat1
        clear hown1 hgrow1 hat1 hlt1 hr
        try go_wp2
        go_roundw
        case rel => exact ⟨k + 1, by omega, by go_num, ys ++ [92, 116], by show _ = _; rw [HT.out]; exact body_step HY.out (rfl), hr1⟩
        case measure => simp [intOf]; omega
      have f0 : ((c : Int) == 34) = false := by simp; omega
      have f1 : ((c : Int) == 92) = false := by simp; omega
      have f2 : ((c : Int) == 8) = false := by simp; omega
      have f3 : ((c : Int) == 12) = false := by simp; omega
      have f4 : ((c : Int) == 10) = false := by simp; omega
      have f5 : ((c : Int) == 13) = false := by simp; omega
      have f6 : ((c : Int) == 9) = false := by simp; omega
      by_cases cu : c < 32
      · have fu : (c : Int) < 32 := by omega
        obtain ⟨p, hp⟩ : ∃ p : Nat, p = c / 16 := ⟨_, rfl⟩
        obtain ⟨q, hq⟩ : ∃ q : Nat, q = c % 16 := ⟨_, rfl⟩
        have p0 : p < 16 := by omega
        have q0 : q < 16 := by omega
        have p1 : (0 : Int) ≤ (p : Int) := by omega
        have p2 : (p : Int) < 16 := by omega
        have q1 : (0 : Int) ≤ (q : Int) := by omega
        have q2 : (q : Int) < 16 := by omega
        have e1 : (c : Int) / 16 = (p : Int) := by omega
        have e2 : bits BinOp.and IntKind.u8 (c : Int) 15 = (q : Int) := by rw [and15 c cu, hq]
        obtain ⟨d1, x1⟩ : ∃ d1 : Nat, (({ data := #[48, 49, 50, 51, 52, 53, 54, 55, 56, 57, 97, 98, 99, 100, 101, 102] } : ByteArray)[p]'p0).toNat = d1 := ⟨_, rfl⟩
        obtain ⟨d2, x2⟩ : ∃ d2 : Nat, (({ data := #[48, 49, 50, 51, 52, 53, 54, 55, 56, 57, 97, 98, 99, 100, 101, 102] } : ByteArray)[q]'q0).toNat = d2 := ⟨_, rfl⟩
        have HD : Hid (d1 = hexd (c / 16) ∧ d2 = hexd (c % 16)) := ⟨by rw [← x1, digit p p0, hp], by rw [← x2, digit q q0, hq]⟩
        clear hp hq
        go_wp2_with fail
        go_region_law (refine step_append_lies _ (by rfl) _ _ 22 (by rfl) base 5 i0 (.int .u8 0) 1 1 Try.underlying22 hi hz0 hz1 hz2 rfl (by decide) _ ys.length (row ys) (by rfl) ((hr.own.alloc _).drew) ⟨wr.heap.size, 0, none⟩ 6 6 [.int .u8 92, .int .u8 117, .int .u8 48, .int .u8 48, .int .u8 (d1 : Int), .int .u8 (d2 : Int)] (by rfl) (by rfl) (World.news_of_block (cs := #[.int .u8 92, .int .u8 117, .int .u8 48, .int .u8 48, .int .u8 (d1 : Int), .int .u8 (d2 : Int)]) (t := 5) (fr := (0, 0)) (heap_alloc_new _ _)) (by simp [Value.oneCell']) (by decide) (by unfold maxLen; omega) (by omega) (by have := hr.grown.size; simp; omega) (wr.heap.size + 1) (by simp) ?_; intro g cap w1 hown1 hgrow1 hat1 hlt1)
        all_goals
          have hr1 := hr.append (.cells #[.int .u8 92, .int .u8 117, .int .u8 48, .int .u8 48, .int .u8 (d1 : Int), .int .u8 (d2 : Int)] 5) 1 [92, 117, 48, 48, d1, d2] 6 g cap rfl hown1 hgrow1 hat1
          clear hown1 hgrow1 hat1 hlt1 hr
          go_wp2
          go_roundw
          case rel => exact ⟨k + 1, by omega, by go_num, ys ++ [92, 117, 48, 48, d1, d2], by show _ = _; rw [HT.out]; exact body_step HY.out (by unfold esc; rw [if_neg (by omega), if_neg c2, if_neg c3, if_neg c4, if_neg c5, if_neg c6, if_pos cu, HD.out.1, HD.out.2]), hr1⟩
          case measure => simp [intOf]; omega
      · have fu : ¬ (c : Int) < 32 := by omega
        go_wp2_with (at_builtin; go_must (refine wpList_append_lies _ (by rfl) _ _ 22 (by rfl) base 5 i0 (.int .u8 0) 1 1 Try.underlying22 hi hz0 hz1 hz2 rfl (by decide) _ ys.length (row ys) (by rfl) (hr.own.alloc _) ⟨wr.heap.size, 0, none⟩ 1 1 [.int .u8 (c : Int)] (by rfl) (by rfl) (World.news_of_block (cs := #[.int .u8 (c : Int)]) (t := 5) (fr := (0, 0)) (heap_alloc_new _ _)) (by simp [Value.oneCell']) (by decide) (by unfold maxLen; omega) (by omega) (by have := hr.grown.size; simp; omega) (wr.heap.size + 1) (by simp) ?_); intro g cap w1 hown1 hgrow1 hat1 hlt1)
        have hr1 := hr.append _ 0 [c] 1 g cap rfl hown1 hgrow1 hat1
        clear hown1 hgrow1 hat1 hlt1 hr
        try go_wp2
        go_roundw
        case rel => exact ⟨k + 1, by omega, by go_num, ys ++ [c], by show _ = _; rw [HT.out]; exact body_step HY.out (by unfold esc; rw [if_neg (by omega), if_neg c2, if_neg c3, if_neg c4, if_neg c5, if_neg c6, if_neg cu]), hr1⟩
        case measure => simp [intOf]; omega
    · have hkk : s.size = k := by omega
      go_wp2_with (at_builtin; go_must (refine wpList_append_lies _ (by rfl) _ _ 22 (by rfl) base 5 i0 (.int .u8 0) 1 1 Try.underlying22 hi hz0 hz1 hz2 rfl (by decide) _ ys.length (row ys) (by rfl) (hr.own.alloc _) ⟨wr.heap.size, 0, none⟩ 1 1 [.int .u8 34] (by rfl) (by rfl) (World.news_of_block (cs := #[.int .u8 34]) (t := 5) (fr := (0, 0)) (heap_alloc_new _ _)) (by simp [Value.oneCell']) (by decide) (by unfold maxLen; omega) (by omega) (by have := hr.grown.size; simp; omega) (wr.heap.size + 1) (by simp) ?_); intro g cap w1 hown1 hgrow1 hat1 hlt1)
      have hr1 := hr.append _ 0 [34] 1 g cap rfl hown1 hgrow1 hat1
      clear hown1 hgrow1 hat1 hlt1 hr
      go_ret
      refine ⟨_, rfl, ?_⟩
      have e : xs ++ lit (bytes s) = ys ++ [34] := by
        rw [HY.out, ← hkk, List.take_of_length_le (by rw [bytes_length]; exact Nat.le_refl _)]
        simp [lit]
      rw [e]
      exact hr1

end Go.Proofs.Qxb6617886a
