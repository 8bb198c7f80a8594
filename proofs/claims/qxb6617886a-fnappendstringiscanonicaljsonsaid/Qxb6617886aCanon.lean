/-
  THE WALK OF FnAppendStringIsCanonicalJSON (3).
-/
import Derived.Test.Qxb6617886aDec
import Derived.Test.Qxb6617886aSame
namespace Go.Proofs.Qxb6617886a
open Go.RowKit

theorem own_belowC {w w' : World} {base C : Nat} {v : Value} {n : Nat} {xs : List Value} (h : w.ownsRow base 5 1 v n xs) (hb : Below C w w') (hv : ∀ g, v.ownBlock = some g → g < C) : w'.ownsRow base 5 1 v n xs := by
  refine ⟨h.1, ?_⟩
  rcases h.2 with hn | ⟨g, cap, cur, rfl, hbg, hg, r⟩
  · exact .inl hn
  · exact .inr ⟨g, cap, cur, rfl, hbg, by rw [hb.block g (hv g rfl)]; exact hg, r⟩

theorem own_formC {w : World} {base : Nat} {v : Value} {n : Nat} {xs : List Value} (h : w.ownsRow base 5 1 v n xs) : ∃ ao cap, v = .slice ao n cap ∧ (ao = none → cap = 0) ∧ n ≤ cap ∧ cap ≤ maxLen ∧ (0 < n → ∃ g, ao = some ⟨g, 0, none⟩ ∧ g < w.heap.size) := by
  rcases h.2 with ⟨rfl, rfl⟩ | ⟨g, cap, cur, rfl, hbg, hg, hnc, hcm, _⟩
  · exact ⟨none, 0, rfl, fun _ => rfl, Nat.le_refl _, by unfold maxLen; omega, fun h => by omega⟩
  · exact ⟨_, cap, rfl, (fun h => by cases h), hnc, hcm, fun _ => ⟨g, rfl, (Array.getElem?_eq_some_iff.1 hg).1⟩⟩

theorem own_cellsC {w : World} {base g cap : Nat} {xs : List Nat} {n : Nat} (h : w.ownsRow base 5 1 (.slice (some ⟨g, 0, none⟩) n cap) n (row xs)) (hl : xs.length = n) : ∀ j, j < n → w.cell? ⟨g, j, none⟩ = some (.int .u8 ((xs.getD j 0 : Nat) : Int)) := by
  intro j hj
  rw [h.cellAt j (by omega), row_get xs j (by omega)]

set_option maxRecDepth 100000 in
set_option maxHeartbeats 1000000 in
theorem canon_main (w : World) (ao : Option Addr) (m cap : Nat) (bs : List Nat) (hin : InRow w ao m bs) (hcap : ao = none → cap = 0) (s : ByteArray) (h1 : m + s.size ≤ 1048576) :
    Calls Try.prog 3 #[.slice ao m cap, .string s] w fun e w' => e = .returned (.bool true) ∧ Below w.heap.size w w' := by
  have hbl := hin.1
  subst hbl
  have hc1 := clone_any w ao _ cap bs hin hcap (by omega)
  go_enter Try.func3, Try.ntmps3
  go_wp2_with fail
  refine (zz5_any ao _ cap s w h1).mono ?_
  rintro e w' ⟨rfl, hw⟩
  subst hw
  go_wp2_with fail
  refine hc1.mono ?_
  rintro e w1 ⟨v1, rfl, ho1, hb1⟩
  clear hc1 hin
  obtain ⟨a1, c1, hv1, hn1, _⟩ := own_formC ho1
  subst hv1
  have hc2 := clone_any w1 a1 bs.length c1 bs (InRow.of_own ho1 rfl) hn1 (by omega)
  go_wp2_with fail
  refine hc2.mono ?_
  rintro e w2 ⟨v7, rfl, ho7, hb2⟩
  clear hc2
  have ho1' := own_belowC ho1 hb2 (fun g hg => (ho1.lt g hg).2)
  have hne : v7.ownBlock = none ∨ v7.ownBlock ≠ (Value.slice a1 bs.length c1).ownBlock := by
    cases hv : v7.ownBlock with
    | none => exact .inl rfl
    | some g => exact .inr (fun e => by have := (ho7.lt g hv).1; have := (ho1.lt g e.symm).2; omega)
  have hz1 := hb1.size
  have hz2 := hb2.size
  have hc3 := zzapp_any s w2 _ bs w'.heap.size ho1' (by omega) (by omega) (by omega)
  have hlo : ∀ g, (Value.slice a1 bs.length c1).ownBlock = some g → w'.heap.size ≤ g := fun g hg => (ho1.lt g hg).1
  clear ho1 ho1'
  go_wp2_with fail
  refine hc3.mono ?_
  rintro e w3 ⟨v8, rfl, hO8⟩
  clear hc3
  have ho7' := ho7.kept hO8.grown hne
  have hb3 : Below w'.heap.size w2 w3 := hO8.below (by omega) hlo
  have hB : Below w'.heap.size w' w3 := (hb1.trans (hb2.mono (by omega))).trans hb3
  have ho8 := hO8.own
  obtain ⟨E, hE⟩ : ∃ E, (body (bytes s)).length = E := ⟨_, rfl⟩
  have hEl := body_length (bytes s)
  rw [bytes_length, hE] at hEl
  have hl : (bs ++ lit (bytes s)).length = bs.length + (E + 2) := by rw [List.length_append, ← hE]; simp [lit]
  have F1 : ∀ i, i < bs.length → (bs ++ lit (bytes s)).getD i 0 = bs.getD i 0 := fun i hi => getD_app_l _ _ _ hi
  have F2 : ∀ j, (bs ++ lit (bytes s)).getD (bs.length + j) 0 = (lit (bytes s)).getD j 0 := fun j => getD_app_r _ _ _
  rw [hl] at ho8
  obtain ⟨a7, c7, hv7, _, _, _, hp7⟩ := own_formC ho7'
  obtain ⟨a8, c8, hv8, _, hc8, hm8, hp8⟩ := own_formC ho8
  obtain ⟨g8, hg8, hlt8⟩ := hp8 (by omega)
  subst hv7 hv8 hg8
  have C8 := own_cellsC ho8 hl
  have C7 : ∀ g, a7 = some ⟨g, 0, none⟩ → ∀ j, j < bs.length → w3.cell? ⟨g, j, none⟩ = some (.int .u8 ((bs.getD j 0 : Nat) : Int)) := fun g hg => own_cellsC (by rw [← hg]; exact ho7') rfl
  have HD : Hid (∀ j, j < E + 2 → w3.cell? ⟨g8, bs.length + j, none⟩ = some (.int .u8 (((lit (bytes s)).getD j 0 : Nat) : Int))) := fun j hj => by rw [C8 (bs.length + j) (by omega), F2]
  have C8' : ∀ j, j < bs.length → w3.cell? ⟨g8, j, none⟩ = some (.int .u8 ((bs.getD j 0 : Nat) : Int)) := fun j hj => by rw [C8 j (by omega), F1 j hj]
  have HE : Hid ((body (bytes s)).length = E) := hE
  unfold maxLen at hm8
  clear ho7 ho7' ho8 hO8 hl F1 F2 C8 hne hlo hb1 hb2 hb3 hz1 hz2 hp8 hE hcap hn1
  generalize bs.length = M at *
  go_wp2
  go_loopw [7] (fun i wr => ∃ j n : Nat, j ≤ M ∧ i = .int .i64 j ∧ wr = w3.drewN n) (fun i _ => M - (intOf i).toNat)
  case atStart => exact ⟨0, 0, Nat.zero_le _, rfl, rfl⟩
  case round =>
    obtain ⟨j, n, hj, rfl, rfl⟩ := hrel
    by_cases hjb : j < M
    · obtain ⟨g7, hg7, _⟩ := hp7 (by omega)
      have x7 := C7 g7 hg7 j hjb
      have x8 := C8' j hjb
      clear hp7 C7 C8'
      subst hg7
      obtain ⟨y, hy⟩ : ∃ y, y = bs.getD j 0 := ⟨_, rfl⟩
      rw [← hy] at x7 x8
      clear hy
      go_wp2_with fail
      go_quiet (fail)
      go_wp2
      go_roundw
      case rel => exact ⟨j + 1, _, by omega, by go_num, rfl⟩
      case measure => simp [intOf]; omega
    · clear C7 C8' hp7
      go_wp2_with fail
      refine (dec_any (w3.drewN n) g8 M (c8 - M) E (bytes s) HE.out HD.out (by omega) hlt8).mono ?_
      rintro e w4 ⟨v9, rfl, ho9, hb4⟩
      rw [bytes_length] at ho9
      obtain ⟨a9, c9, hv9, _⟩ := own_formC ho9
      subst hv9
      have hz := hB.size
      have hB4 : Below w'.heap.size w' w4 := (below_drewN hB n).trans (hb4.mono (by show w'.heap.size ≤ w3.heap.size; omega))
      clear HE HD hb4 hB
      go_wp2_with fail
      refine (same_any s a9 c9 w4 _ ho9 (by omega)).mono ?_
      rintro e w5 ⟨rfl, n5, rfl⟩
      clear ho9
      go_wp2
      go_ret
      exact ⟨rfl, below_drewN hB4 _⟩

end Go.Proofs.Qxb6617886a
