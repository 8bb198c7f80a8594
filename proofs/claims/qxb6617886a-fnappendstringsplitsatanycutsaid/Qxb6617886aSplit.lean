/-
  THE WALK OF FnAppendStringSplitsAtAnyCut (4).
-/
import Derived.Test.Qxb6617886aClone
import Derived.Test.Qxb6617886aSplitLaw
import Derived.Deep.QuietTactic
import Derived.BigQuiet
namespace Go.Proofs.Qxb6617886a
open Go.RowKit

theorem own_below {w w' : World} {base C : Nat} {v : Value} {n : Nat} {xs : List Value} (h : w.ownsRow base 5 1 v n xs) (hb : Below C w w') (hv : ∀ g, v.ownBlock = some g → g < C) : w'.ownsRow base 5 1 v n xs := by
  refine ⟨h.1, ?_⟩
  rcases h.2 with hn | ⟨g, cap, cur, rfl, hbg, hg, r⟩
  · exact .inl hn
  · exact .inr ⟨g, cap, cur, rfl, hbg, by rw [hb.block g (hv g rfl)]; exact hg, r⟩

theorem own_form {w : World} {base : Nat} {v : Value} {n : Nat} {xs : List Value} (h : w.ownsRow base 5 1 v n xs) : ∃ ao cap, v = .slice ao n cap ∧ (ao = none → cap = 0) ∧ (0 < n → ∃ g, ao = some ⟨g, 0, none⟩) := by
  rcases h.2 with ⟨rfl, rfl⟩ | ⟨g, cap, _, rfl, _⟩
  · exact ⟨none, 0, rfl, fun _ => rfl, fun h => by omega⟩
  · exact ⟨_, cap, rfl, (fun h => by cases h), fun _ => ⟨g, rfl⟩⟩

theorem own_cells {w : World} {base g cap : Nat} {xs : List Nat} {n : Nat} (h : w.ownsRow base 5 1 (.slice (some ⟨g, 0, none⟩) n cap) n (row xs)) (hl : xs.length = n) : ∀ j, j < n → w.cell? ⟨g, j, none⟩ = some (.int .u8 ((xs.getD j 0 : Nat) : Int)) := by
  intro j hj
  rw [h.cellAt j (by omega), row_get xs j (by omega)]

theorem ret_bool {b : Bool} (h : b = true) : Ending.returned (.bool b) = .returned (.bool true) := by rw [h]

theorem zz10_any (ao : Option Addr) (m cap : Nat) (s : ByteArray) (k : Int) (w : World) (h : m + s.size ≤ 1048576) :
    Calls Try.prog 10 #[.slice ao m cap, .string s, .int .i64 k] w fun e w' => e = .returned (.bool true) ∧ w' = w := by
  go_enter Try.func10, Try.ntmps10
  go_wp2
  go_ret
  exact ⟨rfl, rfl⟩

set_option maxRecDepth 100000 in
set_option maxHeartbeats 1000000 in
theorem split_main (w : World) (ao : Option Addr) (m cap : Nat) (bs : List Nat) (hin : InRow w ao m bs) (hcap : ao = none → cap = 0) (s : ByteArray) (k : Nat) (h1 : m + s.size ≤ 1048576) (hk : k ≤ s.size) :
    Calls Try.prog 4 #[.slice ao m cap, .string s, .int .i64 k] w fun e w' => e = .returned (.bool true) ∧ Below w.heap.size w w' := by
  have hbl := hin.1
  subst hbl
  have hc1 := clone_any w ao _ cap bs hin hcap (by omega)
  have hs1 : (s.extract 0 k).size ≤ 1048576 := by simp; omega
  have hs2 : (s.extract k s.size).size ≤ 1048576 := by simp; omega
  go_enter Try.func4, Try.ntmps4
  go_wp2_with fail
  refine (zz10_any ao _ cap s k w h1).mono ?_
  rintro e w' ⟨rfl, hw⟩
  subst hw
  go_wp2_with fail
  refine hc1.mono ?_
  rintro e w1 ⟨v1, rfl, ho1, hb1⟩
  clear hc1 hin
  obtain ⟨a1, c1, hv1, hn1, _⟩ := own_form ho1
  subst hv1
  have hc2 := clone_any w1 a1 bs.length c1 bs (InRow.of_own ho1 rfl) hn1 (by omega)
  go_wp2_with fail
  refine hc2.mono ?_
  rintro e w2 ⟨v7, rfl, ho7, hb2⟩
  clear hc2
  have ho1' := own_below ho1 hb2 (fun g hg => (ho1.lt g hg).2)
  have hne : v7.ownBlock = none ∨ v7.ownBlock ≠ (Value.slice a1 bs.length c1).ownBlock := by
    cases hv : v7.ownBlock with
    | none => exact .inl rfl
    | some g => exact .inr (fun e => by have := (ho7.lt g hv).1; have := (ho1.lt g e.symm).2; omega)
  have hz1 := hb1.size
  have hz2 := hb2.size
  have hc3 := zzapp_any s w2 _ bs w'.heap.size ho1' (by omega) (by omega) (by omega)
  have hlo : ∀ g, (Value.slice a1 bs.length c1).ownBlock = some g → w'.heap.size ≤ g := fun g hg => (ho1.lt g hg).1
  clear ho1 ho1'
  go_wp2_with fail
  refine hc3.mono ?_
  rintro e w3 ⟨v8, rfl, hO8⟩
  clear hc3
  have ho7' := ho7.kept hO8.grown hne
  have hb3 : Below w'.heap.size w2 w3 := hO8.below (by omega) hlo
  have hz3 := hb3.size
  have hc4 := zzapp_any (s.extract 0 k) w3 (.slice none 0 0) [] w3.heap.size (World.ownsRow_nil _ _ _ _) (Nat.le_refl _) (by simp) hs1
  clear ho7
  go_wp2_with fail
  refine hc4.mono ?_
  rintro e w4 ⟨v9, rfl, hO9⟩
  clear hc4
  have ho7a := ho7'.kept hO9.grown (by cases v7.ownBlock <;> simp [Value.ownBlock])
  have ho8a := hO8.own.kept hO9.grown (by cases v8.ownBlock <;> simp [Value.ownBlock])
  have hb4 : Below w'.heap.size w3 w4 := hO9.below (by omega) (fun g hg => by cases hg)
  have hz4 := hb4.size
  have hc5 := zzapp_any (s.extract k s.size) w4 (.slice none 0 0) [] w4.heap.size (World.ownsRow_nil _ _ _ _) (Nat.le_refl _) (by simp) hs2
  clear ho7' hO8
  go_wp2_with fail
  refine hc5.mono ?_
  rintro e w5 ⟨v10, rfl, hO10⟩
  clear hc5
  have ho7 := ho7a.kept hO10.grown (by cases v7.ownBlock <;> simp [Value.ownBlock])
  have ho8 := ho8a.kept hO10.grown (by cases v8.ownBlock <;> simp [Value.ownBlock])
  have ho9 := hO9.own.kept hO10.grown (by cases v9.ownBlock <;> simp [Value.ownBlock])
  have ho10 := hO10.own
  have hb5 : Below w'.heap.size w4 w5 := hO10.below (by omega) (fun g hg => by cases hg)
  have hB : Below w'.heap.size w' w5 := (((hb1.trans (hb2.mono (by omega))).trans hb3).trans hb4).trans hb5
  clear ho7a ho8a hO9 hO10 hb1 hb2 hb3 hb4 hb5 hne hlo hz1 hz2 hz3 hz4
  have hsp := split_mk bs (bytes s) k
  rw [← bytes_cut, ← bytes_rest] at hsp
  have hlen := lit_length (bytes s) k
  rw [bytes_length] at hlen
  have hP := litP_pos (bytes s) k
  have hQ := litQ_pos (bytes s) k
  simp only [List.nil_append] at ho9 ho10
  generalize litP (bytes s) k = P at hsp hlen hP
  generalize litQ (bytes s) k = Q at hsp hlen hQ
  generalize bs ++ lit (bytes s) = L8 at hsp ho8
  generalize lit (bytes (s.extract 0 k)) = L9 at hsp ho9
  generalize lit (bytes (s.extract k s.size)) = L10 at hsp ho10
  obtain ⟨n8, n9, n10, F1, F2, F3, F4, F5⟩ := hsp
  rw [n8] at ho8
  rw [n9] at ho9
  rw [n10] at ho10
  obtain ⟨a7, c7, hv7, _, hp7⟩ := own_form ho7
  obtain ⟨a8, c8, hv8, _, hp8⟩ := own_form ho8
  obtain ⟨a9, c9, hv9, _, hp9⟩ := own_form ho9
  obtain ⟨a10, c10, hv10, _, hp10⟩ := own_form ho10
  obtain ⟨g8, hg8⟩ := hp8 (by omega)
  obtain ⟨g9, hg9⟩ := hp9 (by omega)
  obtain ⟨g10, hg10⟩ := hp10 (by omega)
  subst hv7 hv8 hv9 hv10 hg8 hg9 hg10
  have C8 := own_cells ho8 n8
  have C9 := own_cells ho9 n9
  have C10 := own_cells ho10 n10
  have C7 : ∀ g, a7 = some ⟨g, 0, none⟩ → ∀ j, j < bs.length → w5.cell? ⟨g, j, none⟩ = some (.int .u8 ((bs.getD j 0 : Nat) : Int)) := fun g hg => own_cells (by rw [← hg]; exact ho7) rfl
  clear ho7 ho8 ho9 ho10 n8 n9 n10 hp8 hp9 hp10 hs1 hs2 hcap hn1
  generalize P.length = p at *
  generalize Q.length = q at *
  generalize bs.length = M at *
  go_wp2
  go_loopw [14] (fun i wr => ∃ j n : Nat, j ≤ M ∧ i = .int .i64 j ∧ wr = w5.drewN n) (fun i _ => M - (intOf i).toNat)
  case atStart => exact ⟨0, 0, Nat.zero_le _, rfl, rfl⟩
  case round =>
    obtain ⟨j, n, hj, rfl, rfl⟩ := hrel
    by_cases hjb : j < M
    · obtain ⟨g7, hg7⟩ := hp7 (by omega)
      have x7 := C7 g7 hg7 j hjb
      have x8 := C8 j (by omega)
      rw [F1 j hjb] at x8
      clear hp7
      subst hg7
      obtain ⟨y, hy⟩ : ∃ y, y = bs.getD j 0 := ⟨_, rfl⟩
      rw [← hy] at x7 x8
      clear hy
      clear C7 C8 C9 C10 F1 F2 F3 F4 F5
      go_wp2_with fail
      go_quiet (fail)
      go_wp2
      go_roundw
      case rel => exact ⟨j + 1, _, by omega, by go_num, rfl⟩
      case measure => simp [intOf]; omega
    · go_wp2
      clear hjb hj
      go_loopw [15] (fun i wr => ∃ j n : Nat, j ≤ p ∧ i = .int .i64 j ∧ wr = w5.drewN n) (fun i _ => p - (intOf i).toNat)
      case atStart => exact ⟨0, _, Nat.zero_le _, rfl, rfl⟩
      case round =>
        obtain ⟨j, n, hj, rfl, rfl⟩ := hrel
        by_cases hjb : j < p
        · have x9 := C9 j (by omega)
          have x8 := C8 (M + j) (by omega)
          rw [F2 j hjb] at x8
          obtain ⟨y, hy⟩ : ∃ y, y = L9.getD j 0 := ⟨_, rfl⟩
          rw [← hy] at x8 x9
          clear hy
          clear C7 C8 C9 C10 F1 F2 F3 F4 F5
          go_wp2_with fail
          go_quiet (fail)
          go_wp2
          go_roundw
          case rel => exact ⟨j + 1, _, by omega, by go_num, rfl⟩
          case measure => simp [intOf]; omega
        · go_wp2
          clear hjb hj
          go_loopw [16] (fun i wr => ∃ j n : Nat, j ≤ q ∧ i = .int .i64 j ∧ wr = w5.drewN n) (fun i _ => q - (intOf i).toNat)
          case atStart => exact ⟨0, _, Nat.zero_le _, rfl, rfl⟩
          case round =>
            obtain ⟨j, n, hj, rfl, rfl⟩ := hrel
            by_cases hjb : j < q
            · have x10 := C10 (1 + j) (by omega)
              have x8 := C8 (M + p + j) (by omega)
              rw [F3 j hjb] at x8
              obtain ⟨y, hy⟩ : ∃ y, y = L10.getD (1 + j) 0 := ⟨_, rfl⟩
              rw [← hy] at x8 x10
              clear hy
              clear C7 C8 C9 C10 F1 F2 F3 F4 F5
              go_wp2_with fail
              go_quiet (fail)
              go_wp2
              go_roundw
              case rel => exact ⟨j + 1, _, by omega, by go_num, rfl⟩
              case measure => simp [intOf]; omega
            · have x4 := C8 M (by omega)
              rw [F4] at x4
              have x5 := C8 (M + p + q - 1) (by omega)
              rw [F5] at x5
              clear C7 C8 C9 C10 F1 F2 F3 F4 F5
              go_wp2
              go_ret
              exact ⟨ret_bool (decide_eq_true (by omega)), below_drewN hB _⟩

end Go.Proofs.Qxb6617886a
