/-
  THE WALK OF zzDecodeCanonical (8) ON THE LITERAL THAT appendString WRITES.
-/
import Derived.Test.Qxb6617886aHex
import Derived.Test.Qxb6617886aApp
namespace Go.Proofs.Qxb6617886a
open Go.RowKit

set_option maxRecDepth 100000 in
set_option maxHeartbeats 2000000 in
theorem dec_any (w : World) (g off cap E : Nat) (B : List Nat) (hE : (body B).length = E) (hc : ∀ j, j < E + 2 → w.cell? ⟨g, off + j, none⟩ = some (.int .u8 (((lit B).getD j 0 : Nat) : Int))) (hE2 : E ≤ 6291456) (hg : g < w.heap.size) :
    Calls Try.prog 8 #[.slice (some ⟨g, off, none⟩) (E + 2) cap] w fun e w' => ∃ v, e = .returned (.tuple #[v, .bool true]) ∧ w'.ownsRow w.heap.size 5 1 v B.length (row B) ∧ Below w.heap.size w w' := by
  obtain ⟨i0, hi, hz0, hz1, hz2⟩ := info_parts Try.info5
  have HE : Hid ((body B).length = E) := hE
  have hBE : B.length ≤ E := by have := (body_length B).1; omega
  have x0 : w.cell? ⟨g, off, none⟩ = some (.int .u8 34) := hc 0 (by omega)
  have x1 : w.cell? ⟨g, off + (E + 1), none⟩ = some (.int .u8 34) := by
    have := hc (E + 1) (by omega)
    rw [← hE, lit_last] at this
    rw [← hE]; exact this
  have HC : Hid (∀ j, j < E + 2 → w.cell? ⟨g, off + j, none⟩ = some (.int .u8 (((lit B).getD j 0 : Nat) : Int))) := hc
  clear hE hc
  go_enter Try.func8, Try.ntmps8
  go_wp2_with (at_make; go_must (refine wpList_make_own _ rfl _ (.tmp 33) 22 rfl w.heap.size 5 i0 (.int .u8 0) 1 Try.underlying22 hi hz0 hz1 .i64 .i64 _ (E + 2) rfl rfl (by omega) (by rw [hz2]; omega) (by unfold maxLen; omega) (Nat.le_refl _) ?_); intro w1 hown1 hgrow1)
  have hb1 : Below w.heap.size w w1 := (Below.refl _ _).grown hgrow1 (Nat.le_refl _) (fun k hk => by cases hk)
  have hr0 : Own w.heap.size w1 (.slice (some ⟨w.heap.size, 0, none⟩) 0 (E + 2)) w1 (.slice (some ⟨w.heap.size, 0, none⟩) 0 (E + 2)) (B.take 0) := Own.start hown1
  have hz := hb1.size
  clear hown1 hgrow1 x0 x1
  obtain ⟨v6, hv6⟩ : ∃ v6, v6 = Value.slice (some ⟨w.heap.size, 0, none⟩) 0 (E + 2) := ⟨_, rfl⟩
  have H6 : Hid (∀ gg, v6.ownBlock = some gg → w.heap.size ≤ gg) := by
    rw [hv6]; intro gg h
    have : w.heap.size = gg := by simpa [Value.ownBlock] using h
    omega
  rw [← hv6] at hr0 ⊢
  clear hv6
  go_loopw [6, 7] (fun vv ii wr => ∃ k i : Nat, k ≤ B.length ∧ Hid (i = place B k) ∧ i ≤ E + 1 ∧ ii = .int .i64 i ∧ ∃ ys, Hid (ys = B.take k) ∧ Own w.heap.size w1 v6 wr vv ys) (fun _ ii _ => E + 2 - (intOf ii).toNat)
  case atStart => exact ⟨0, 1, Nat.zero_le _, (place_zero B).symm, by omega, rfl, _, rfl, hr0⟩
  case round =>
    obtain ⟨k, i, hk, HI, hiE, rfl, ys, HY, hr⟩ := hrel
    have hbr : Below w.heap.size w wr := hb1.trans (hr.below hz H6.out)
    have htl : ys.length ≤ k := by rw [HY.out]; exact List.length_take_le _ _
    clear hr0
    by_cases hkB : k < B.length
    · obtain ⟨c, hcd⟩ : ∃ c, c = B.getD k 0 := ⟨_, rfl⟩
      have key : ∀ F, esc c = F → i + F.length ≤ E + 1 ∧ (∀ r, r < F.length → wr.cell? ⟨g, off + (i + r), none⟩ = some (.int .u8 ((F.getD r 0 : Nat) : Int))) ∧ Hid (i + F.length = place B (k + 1)) := by
        rintro F rfl
        have h1 := place_le B k hkB
        rw [← HI.out, HE.out, ← hcd] at h1
        refine ⟨by omega, fun r hr' => ?_, ?_⟩
        · have h2 := lit_place B k hkB r (by rw [← hcd]; exact hr')
          rw [← HI.out, ← hcd] at h2
          have h3 := HC.out (i + r) (by omega)
          rw [h2] at h3
          exact (hbr.cell (by exact hg)).trans h3
        · show _ = _
          rw [place_succ B k hkB, ← HI.out, ← hcd]
      have HT : Hid (B.take (k + 1) = B.take k ++ [c]) := by show _ = _; rw [hcd]; exact take_snoc B k hkB
      have HK : Hid (∀ F, esc c = F → i + F.length ≤ E + 1 ∧ (∀ r, r < F.length → wr.cell? ⟨g, off + (i + r), none⟩ = some (.int .u8 ((F.getD r 0 : Nat) : Int))) ∧ Hid (i + F.length = place B (k + 1))) := key
      clear key hcd
      by_cases c0 : c = 34
      · subst c0
        obtain ⟨b1, t, p1⟩ := HK.out [92, 34] rfl
        have t0 : wr.cell? ⟨g, off + i, none⟩ = some (.int .u8 92) := t 0 (by simp)
        have t1 : wr.cell? ⟨g, off + (i + 1), none⟩ = some (.int .u8 34) := t 1 (by simp)
        simp only [List.length_cons, List.length_nil] at b1 p1
        clear t
        go_wp2_with (at_builtin; go_must (refine wpList_append_lies _ (by rfl) _ _ 22 (by rfl) w.heap.size 5 i0 (.int .u8 0) 1 1 Try.underlying22 hi hz0 hz1 hz2 rfl (by decide) _ ys.length (row ys) (by rfl) (hr.own.alloc _) ⟨wr.heap.size, 0, none⟩ 1 1 [.int .u8 34] (by rfl) (by rfl) (World.news_of_block (cs := #[.int .u8 34]) (t := 5) (fr := (0, 0)) (heap_alloc_new _ _)) (by simp [Value.oneCell']) (by decide) (by unfold maxLen; omega) (by omega) (by have := hr.grown.size; simp; omega) (wr.heap.size + 1) (by simp) ?_); intro g1 cap1 w2 hown1 hgrow1 hat1 hlt1)
        have hr1 := hr.append _ 0 [34] 1 g1 cap1 rfl hown1 hgrow1 hat1
        have HR : Hid (ys ++ [34] = B.take (k + 1)) := by show _ = _; rw [HT.out, HY.out]
        clear hown1 hgrow1 hat1 hlt1 hr HT HK
        try go_wp2
        go_roundw
        case rel => exact ⟨k + 1, i + 2, by omega, p1, by omega, by go_num, _, HR, hr1⟩
        case measure => simp [intOf]; omega
      by_cases c1 : c = 92
      · subst c1
        obtain ⟨b1, t, p1⟩ := HK.out [92, 92] rfl
        have t0 : wr.cell? ⟨g, off + i, none⟩ = some (.int .u8 92) := t 0 (by simp)
        have t1 : wr.cell? ⟨g, off + (i + 1), none⟩ = some (.int .u8 92) := t 1 (by simp)
        simp only [List.length_cons, List.length_nil] at b1 p1
        clear t
        go_wp2_with (at_builtin; go_must (refine wpList_append_lies _ (by rfl) _ _ 22 (by rfl) w.heap.size 5 i0 (.int .u8 0) 1 1 Try.underlying22 hi hz0 hz1 hz2 rfl (by decide) _ ys.length (row ys) (by rfl) (hr.own.alloc _) ⟨wr.heap.size, 0, none⟩ 1 1 [.int .u8 92] (by rfl) (by rfl) (World.news_of_block (cs := #[.int .u8 92]) (t := 5) (fr := (0, 0)) (heap_alloc_new _ _)) (by simp [Value.oneCell']) (by decide) (by unfold maxLen; omega) (by omega) (by have := hr.grown.size; simp; omega) (wr.heap.size + 1) (by simp) ?_); intro g1 cap1 w2 hown1 hgrow1 hat1 hlt1)
        have hr1 := hr.append _ 0 [92] 1 g1 cap1 rfl hown1 hgrow1 hat1
        have HR : Hid (ys ++ [92] = B.take (k + 1)) := by show _ = _; rw [HT.out, HY.out]
        clear hown1 hgrow1 hat1 hlt1 hr HT HK
        try go_wp2
        go_roundw
        case rel => exact ⟨k + 1, i + 2, by omega, p1, by omega, by go_num, _, HR, hr1⟩
        case measure => simp [intOf]; omega
      by_cases c2 : c = 8
      · subst c2
        obtain ⟨b1, t, p1⟩ := HK.out [92, 98] rfl
        have t0 : wr.cell? ⟨g, off + i, none⟩ = some (.int .u8 92) := t 0 (by simp)
        have t1 : wr.cell? ⟨g, off + (i + 1), none⟩ = some (.int .u8 98) := t 1 (by simp)
        simp only [List.length_cons, List.length_nil] at b1 p1
        clear t
        go_wp2_with (at_builtin; go_must (refine wpList_append_lies _ (by rfl) _ _ 22 (by rfl) w.heap.size 5 i0 (.int .u8 0) 1 1 Try.underlying22 hi hz0 hz1 hz2 rfl (by decide) _ ys.length (row ys) (by rfl) (hr.own.alloc _) ⟨wr.heap.size, 0, none⟩ 1 1 [.int .u8 8] (by rfl) (by rfl) (World.news_of_block (cs := #[.int .u8 8]) (t := 5) (fr := (0, 0)) (heap_alloc_new _ _)) (by simp [Value.oneCell']) (by decide) (by unfold maxLen; omega) (by omega) (by have := hr.grown.size; simp; omega) (wr.heap.size + 1) (by simp) ?_); intro g1 cap1 w2 hown1 hgrow1 hat1 hlt1)
        have hr1 := hr.append _ 0 [8] 1 g1 cap1 rfl hown1 hgrow1 hat1
        have HR : Hid (ys ++ [8] = B.take (k + 1)) := by show _ = _; rw [HT.out, HY.out]
        clear hown1 hgrow1 hat1 hlt1 hr HT HK
        try go_wp2
        go_roundw
        case rel => exact ⟨k + 1, i + 2, by omega, p1, by omega, by go_num, _, HR, hr1⟩
        case measure => simp [intOf]; omega
      by_cases c3 : c = 12
      · subst c3
        obtain ⟨b1, t, p1⟩ := HK.out [92, 102] rfl
        have t0 : wr.cell? ⟨g, off + i, none⟩ = some (.int .u8 92) := t 0 (by simp)
        have t1 : wr.cell? ⟨g, off + (i + 1), none⟩ = some (.int .u8 102) := t 1 (by simp)
        simp only [List.length_cons, List.length_nil] at b1 p1
        clear t
        go_wp2_with (at_builtin; go_must (refine wpList_append_lies _ (by rfl) _ _ 22 (by rfl) w.heap.size 5 i0 (.int .u8 0) 1 1 Try.underlying22 hi hz0 hz1 hz2 rfl (by decide) _ ys.length (row ys) (by rfl) (hr.own.alloc _) ⟨wr.heap.size, 0, none⟩ 1 1 [.int .u8 12] (by rfl) (by rfl) (World.news_of_block (cs := #[.int .u8 12]) (t := 5) (fr := (0, 0)) (heap_alloc_new _ _)) (by simp [Value.oneCell']) (by decide) (by unfold maxLen; omega) (by omega) (by have := hr.grown.size; simp; omega) (wr.heap.size + 1) (by simp) ?_); intro g1 cap1 w2 hown1 hgrow1 hat1 hlt1)
        have hr1 := hr.append _ 0 [12] 1 g1 cap1 rfl hown1 hgrow1 hat1
        have HR : Hid (ys ++ [12] = B.take (k + 1)) := by show _ = _; rw [HT.out, HY.out]
        clear hown1 hgrow1 hat1 hlt1 hr HT HK
        try go_wp2
        go_roundw
        case rel => exact ⟨k + 1, i + 2, by omega, p1, by omega, by go_num, _, HR, hr1⟩
        case measure => simp [intOf]; omega
      by_cases c4 : c = 10
      · subst c4
        obtain ⟨b1, t, p1⟩ := HK.out [92, 110] rfl
        have t0 : wr.cell? ⟨g, off + i, none⟩ = some (.int .u8 92) := t 0 (by simp)
        have t1 : wr.cell? ⟨g, off + (i + 1), none⟩ = some (.int .u8 110) := t 1 (by simp)
        simp only [List.length_cons, List.length_nil] at b1 p1
        clear t
        go_wp2_with (at_builtin; go_must (refine wpList_append_lies _ (by rfl) _ _ 22 (by rfl) w.heap.size 5 i0 (.int .u8 0) 1 1 Try.underlying22 hi hz0 hz1 hz2 rfl (by decide) _ ys.length (row ys) (by rfl) (hr.own.alloc _) ⟨wr.heap.size, 0, none⟩ 1 1 [.int .u8 10] (by rfl) (by rfl) (World.news_of_block (cs := #[.int .u8 10]) (t := 5) (fr := (0, 0)) (heap_alloc_new _ _)) (by simp [Value.oneCell']) (by decide) (by unfold maxLen; omega) (by omega) (by have := hr.grown.size; simp; omega) (wr.heap.size + 1) (by simp) ?_); intro g1 cap1 w2 hown1 hgrow1 hat1 hlt1)
        have hr1 := hr.append _ 0 [10] 1 g1 cap1 rfl hown1 hgrow1 hat1
        have HR : Hid (ys ++ [10] = B.take (k + 1)) := by show _ = _; rw [HT.out, HY.out]
        clear hown1 hgrow1 hat1 hlt1 hr HT HK
        try go_wp2
        go_roundw
        case rel => exact ⟨k + 1, i + 2, by omega, p1, by omega, by go_num, _, HR, hr1⟩
        case measure => simp [intOf]; omega
      by_cases c5 : c = 13
      · subst c5
        obtain ⟨b1, t, p1⟩ := HK.out [92, 114] rfl
        have t0 : wr.cell? ⟨g, off + i, none⟩ = some (.int .u8 92) := t 0 (by simp)
        have t1 : wr.cell? ⟨g, off + (i + 1), none⟩ = some (.int .u8 114) := t 1 (by simp)
        simp only [List.length_cons, List.length_nil] at b1 p1
        clear t
        go_wp2_with (at_builtin; go_must (refine wpList_append_lies _ (by rfl) _ _ 22 (by rfl) w.heap.size 5 i0 (.int .u8 0) 1 1 Try.underlying22 hi hz0 hz1 hz2 rfl (by decide) _ ys.length (row ys) (by rfl) (hr.own.alloc _) ⟨wr.heap.size, 0, none⟩ 1 1 [.int .u8 13] (by rfl) (by rfl) (World.news_of_block (cs := #[.int .u8 13]) (t := 5) (fr := (0, 0)) (heap_alloc_new _ _)) (by simp [Value.oneCell']) (by decide) (by unfold maxLen; omega) (by omega) (by have := hr.grown.size; simp; omega) (wr.heap.size + 1) (by simp) ?_); intro g1 cap1 w2 hown1 hgrow1 hat1 hlt1)
        have hr1 := hr.append _ 0 [13] 1 g1 cap1 rfl hown1 hgrow1 hat1
        have HR : Hid (ys ++ [13] = B.take (k + 1)) := by show _ = _; rw [HT.out, HY.out]
        clear hown1 hgrow1 hat1 hlt1 hr HT HK
        try go_wp2
        go_roundw
        case rel => exact ⟨k + 1, i + 2, by omega, p1, by omega, by go_num, _, HR, hr1⟩
        case measure => simp [intOf]; omega
      by_cases c6 : c = 9
      · subst c6
        obtain ⟨b1, t, p1⟩ := HK.out [92, 116] rfl
        have t0 : wr.cell? ⟨g, off + i, none⟩ = some (.int .u8 92) := t 0 (by simp)
        have t1 : wr.cell? ⟨g, off + (i + 1), none⟩ = some (.int .u8 116) := t 1 (by simp)
        simp only [List.length_cons, List.length_nil] at b1 p1
        clear t
        go_wp2_with (at_builtin; go_must (refine wpList_append_lies _ (by rfl) _ _ 22 (by rfl) w.heap.size 5 i0 (.int .u8 0) 1 1 Try.underlying22 hi hz0 hz1 hz2 rfl (by decide) _ ys.length (row ys) (by rfl) (hr.own.alloc _) ⟨wr.heap.size, 0, none⟩ 1 1 [.int .u8 9] (by rfl) (by rfl) (World.news_of_block (cs := #[.int .u8 9]) (t := 5) (fr := (0, 0)) (heap_alloc_new _ _)) (by simp [Value.oneCell']) (by decide) (by unfold maxLen; omega) (by omega) (by have := hr.grown.size; simp; omega) (wr.heap.size + 1) (by simp) ?_); intro g1 cap1 w2 hown1 hgrow1 hat1 hlt1)
        have hr1 := hr.append _ 0 [9] 1 g1 cap1 rfl hown1 hgrow1 hat1
        have HR : Hid (ys ++ [9] = B.take (k + 1)) := by show _ = _; rw [HT.out, HY.out]
        clear hown1 hgrow1 hat1 hlt1 hr HT HK
        try go_wp2
        go_roundw
        case rel => exact ⟨k + 1, i + 2, by omega, p1, by omega, by go_num, _, HR, hr1⟩
        case measure => simp [intOf]; omega
      by_cases cu : c < 32
      · obtain ⟨b1, t, p1⟩ := HK.out [92, 117, 48, 48, hexd (c / 16), hexd (c % 16)] (by unfold esc; rw [if_neg (by omega), if_neg c2, if_neg c3, if_neg c4, if_neg c5, if_neg c6, if_pos cu])
        have t0 : wr.cell? ⟨g, off + i, none⟩ = some (.int .u8 92) := t 0 (by simp)
        have t1 : wr.cell? ⟨g, off + (i + 1), none⟩ = some (.int .u8 117) := t 1 (by simp)
        have TD : Hid (∀ r, r < 4 → wr.cell? ⟨g, off + (i + 2 + r), none⟩ = some (.int .u8 ((hexd (dg c r) : Nat) : Int))) := by
          intro r hr'
          have := t (2 + r) (by simp; omega)
          rw [uesc_dg c r hr', show i + (2 + r) = i + 2 + r by omega] at this
          exact this
        simp only [List.length_cons, List.length_nil] at b1 p1
        clear t
        go_wp2
        generalize decide ((i : Int) < (E : Int) + 2 - 1) = R37
        go_loop [9, 10] (fun vv jj => ∃ r J : Nat, r ≤ 4 ∧ Hid (J = i + 2 + r) ∧ J ≤ i + 6 ∧ jj = .int .i64 (J : Int) ∧ vv = .int .i64 ((hv c r : Nat) : Int)) (fun _ jj => i + 6 - (intOf jj).toNat)
        case atStart => exact ⟨0, i + 2, by omega, rfl, by omega, by go_num, rfl⟩
        case round =>
          obtain ⟨r, J, hr4, HJ, hJ6, rfl, rfl⟩ := hrel
          by_cases hrl : r < 4
          · have hJ7 : J < i + 6 := by have := HJ.out; omega
            have hvl := hv_le c r cu
            obtain ⟨d, hd⟩ : ∃ d, d = hexd (dg c r) := ⟨_, rfl⟩
            have td : wr.cell? ⟨g, off + J, none⟩ = some (.int .u8 (d : Int)) := by rw [HJ.out, hd]; exact TD.out r hrl
            have hcall := hex_any d (dg c r) wr (dg_lt c r cu) hd
            have hdl := dg_lt c r cu
            have HV : Hid (hv c (r + 1) = hv c r * 16 + dg c r) := hv_succ c r hrl
            clear hd
            generalize dg c r = x at *
            generalize hv c r = y at *
            go_wp2_with (go_at_call 12; go_must (refine hcall.mono ?_); rintro e w' ⟨rfl, rfl⟩)
            go_round
            case rel => exact ⟨r + 1, J + 1, by omega, by have := HJ.out; show _ = _; omega, by omega, by go_num, by rw [HV.out]; go_num⟩
            case measure => simp [intOf]; omega
          · have hr5 : r = 4 := by omega
            subst hr5
            rw [hv_four]
            have hJ7 : J = i + 6 := by have := HJ.out; omega
            subst hJ7
            have f1 : ((c : Int) == 8) = false := by simp; omega
            have f2 : ((c : Int) == 9) = false := by simp; omega
            have f3 : ((c : Int) == 10) = false := by simp; omega
            have f4 : ((c : Int) == 12) = false := by simp; omega
            have f5 : ((c : Int) == 13) = false := by simp; omega
            have f6 : (c : Int) < 32 := by omega
            clear TD
            go_wp2_with (at_builtin; go_must (refine wpList_append_lies _ (by rfl) _ _ 22 (by rfl) w.heap.size 5 i0 (.int .u8 0) 1 1 Try.underlying22 hi hz0 hz1 hz2 rfl (by decide) _ ys.length (row ys) (by rfl) (hr.own.alloc _) ⟨wr.heap.size, 0, none⟩ 1 1 [.int .u8 (c : Int)] (by rfl) (by rfl) (World.news_of_block (cs := #[.int .u8 (c : Int)]) (t := 5) (fr := (0, 0)) (heap_alloc_new _ _)) (by simp [Value.oneCell']) (by decide) (by unfold maxLen; omega) (by omega) (by have := hr.grown.size; simp; omega) (wr.heap.size + 1) (by simp) ?_); intro g1 cap1 w2 hown1 hgrow1 hat1 hlt1)
            have hr1 := hr.append _ 0 [c] 1 g1 cap1 rfl hown1 hgrow1 hat1
            have HR : Hid (ys ++ [c] = B.take (k + 1)) := by show _ = _; rw [HT.out, HY.out]
            clear hown1 hgrow1 hat1 hlt1 hr HT HK
            try go_wp2
            go_roundw
            case rel => exact ⟨k + 1, i + 6, by omega, p1, by omega, by go_num, _, HR, hr1⟩
            case measure => simp [intOf]; omega
      · obtain ⟨b1, t, p1⟩ := HK.out [c] (by unfold esc; rw [if_neg (by omega), if_neg c2, if_neg c3, if_neg c4, if_neg c5, if_neg c6, if_neg cu])
        have t0 : wr.cell? ⟨g, off + i, none⟩ = some (.int .u8 (c : Int)) := t 0 (by simp)
        simp only [List.length_cons, List.length_nil] at b1 p1
        have f0 : ((c : Int) == 34) = false := by simp; omega
        have f1 : ((c : Int) != 92) = true := by simp; omega
        have f2 : ¬ (c : Int) < 32 := by omega
        clear t
        go_wp2_with (at_builtin; go_must (refine wpList_append_lies _ (by rfl) _ _ 22 (by rfl) w.heap.size 5 i0 (.int .u8 0) 1 1 Try.underlying22 hi hz0 hz1 hz2 rfl (by decide) _ ys.length (row ys) (by rfl) (hr.own.alloc _) ⟨wr.heap.size, 0, none⟩ 1 1 [.int .u8 (c : Int)] (by rfl) (by rfl) (World.news_of_block (cs := #[.int .u8 (c : Int)]) (t := 5) (fr := (0, 0)) (heap_alloc_new _ _)) (by simp [Value.oneCell']) (by decide) (by unfold maxLen; omega) (by omega) (by have := hr.grown.size; simp; omega) (wr.heap.size + 1) (by simp) ?_); intro g1 cap1 w2 hown1 hgrow1 hat1 hlt1)
        have hr1 := hr.append _ 0 [c] 1 g1 cap1 rfl hown1 hgrow1 hat1
        have HR : Hid (ys ++ [c] = B.take (k + 1)) := by show _ = _; rw [HT.out, HY.out]
        clear hown1 hgrow1 hat1 hlt1 hr HT HK
        try go_wp2
        go_roundw
        case rel => exact ⟨k + 1, i + 1, by omega, p1, by omega, by go_num, _, HR, hr1⟩
        case measure => simp [intOf]; omega
    · have hkk : k = B.length := by omega
      have hie : i = E + 1 := by rw [HI.out, hkk, place_all, HE.out]; omega
      subst hie
      have ho := hr.own
      rw [HY.out, hkk, List.take_length] at ho
      clear hkk hr
      go_wp2
      go_ret2
      exact ⟨_, rfl, ho, hbr⟩

end Go.Proofs.Qxb6617886a
