/-
  THE WALKS OF ZZappendString (7) AND zzCloneBytes (6).
-/
import Derived.Test.Qxb6617886aApp
import Derived.Laws.CopyOwn
namespace Go.Proofs.Qxb6617886a
open Go.RowKit

theorem zzapp_any (s : ByteArray) (w : World) (v : Value) (xs : List Nat) (base : Nat) (hown : w.ownsRow base 5 1 v xs.length (row xs)) (hbase : base ≤ w.heap.size) (h1 : xs.length ≤ 1048576) (h2 : s.size ≤ 1048576) :
    Calls Try.prog 7 #[v, .string s] w fun e w' => ∃ v', e = .returned v' ∧ Own base w v w' v' (xs ++ lit (bytes s)) := by
  have hc := app_any s w v xs base hown hbase h1 h2
  clear hown
  go_enter Try.func7, Try.ntmps7
  go_wp2_with (go_at_call 11; go_must (refine hc.mono ?_); rintro e w1 ⟨v', rfl, h⟩)
  go_ret
  exact ⟨_, rfl, h⟩

/-- A slice of bytes that is read: its elements are xs. -/
def InRow (w : World) (ao : Option Addr) (n : Nat) (xs : List Nat) : Prop :=
  xs.length = n ∧ (ao = none → n = 0) ∧ ∀ a, ao = some a → ∀ j, j < n → w.cell? (a.add j) = some (.int .u8 ((xs.getD j 0 : Nat) : Int))

/-- What is owned is read so. -/
theorem InRow.of_own {w : World} {base : Nat} {ao : Option Addr} {n cap : Nat} {xs : List Nat} (h : w.ownsRow base 5 1 (.slice ao n cap) n (row xs)) (hl : xs.length = n) : InRow w ao n xs := by
  rcases h.2 with ⟨e, e0⟩ | ⟨g, cap', cur, e, _⟩
  · simp only [Value.slice.injEq] at e
    exact ⟨hl, fun _ => e0, fun a ha => by rw [e.1] at ha; cases ha⟩
  · simp only [Value.slice.injEq, true_and] at e
    refine ⟨hl, (fun ha => by rw [e.1] at ha; cases ha), fun a ha j hj => ?_⟩
    rw [e.1] at ha
    cases ha
    exact h.cells (g := g) (by rw [e.1]; rfl) j _ (row_get xs j (by omega))

theorem clone_nil (w : World) :
    Calls Try.prog 6 #[.slice none 0 0] w fun e w' => e = .returned (.slice none 0 0) ∧ w' = w := by
  have hnil : ∀ W, (binOp .eql 22 (.slice none 0 0) (.slice none 0 0)).run Try.prog W = .ok (.bool true) W := fun W => Lib.run_eql_slice_nil W _ _ none 0 0 _ _ Try.underlying22
  go_enter Try.func6, Try.ntmps6
  go_wp2
  go_ret
  exact ⟨rfl, rfl⟩

theorem made_block {w1 : World} {base g n : Nat} {L : List Value} (h : w1.ownsRow base 5 1 (.slice (some ⟨g, 0, none⟩) n n) n L) : ∃ cur : List Value, w1.heap[g]? = some (.cells cur.toArray 5 (0, 0)) ∧ cur.length = n := by
  rcases h.2 with ⟨e, _⟩ | ⟨g', cap', cur, e, _, hg, _, _, hs, _⟩
  · cases e
  · simp only [Value.slice.injEq, Option.some.injEq, Addr.mk.injEq, and_true, true_and] at e
    obtain ⟨rfl, rfl⟩ := e
    exact ⟨cur.toList, by simpa using hg, by simpa using hs⟩

theorem splice_all {α : Type} (cur cs : List α) (h : cs.length = cur.length) : splice cur 0 cs = cs := by
  unfold splice
  rw [List.drop_eq_nil_of_le (by omega)]
  simp

set_option maxRecDepth 100000 in
set_option maxHeartbeats 400000 in
theorem clone_some (w : World) (a : Addr) (n cap : Nat) (xs : List Nat) (hl : xs.length = n) (hc : ∀ j, j < n → w.cell? (a.add j) = some (.int .u8 ((xs.getD j 0 : Nat) : Int))) (h1 : n ≤ 1048576) :
    Calls Try.prog 6 #[.slice (some a) n cap] w fun e w' => ∃ v, e = .returned v ∧ w'.ownsRow w.heap.size 5 1 v xs.length (row xs) ∧ Below w.heap.size w w' := by
  obtain ⟨i0, hi, hz0, hz1, hz2⟩ := info_parts Try.info5
  have hnil : ∀ W, (binOp .eql 22 (.slice (some a) n cap) (.slice none 0 0)).run Try.prog W = .ok (.bool false) W := fun W => Lib.run_eql_slice_nil W _ _ _ _ _ _ _ Try.underlying22
  have hsz : (Try.prog.info? 5).map (·.size) = some 1 := by rw [hi]; simp [hz1]
  have HX : Hid (xs.length = n) := hl
  have hcs : ∀ j u, (row xs)[j]? = some u → w.cell? (a.add j) = some u := by
    intro j u hu
    have hj : j < xs.length := by
      have := (List.getElem?_eq_some_iff.1 hu).1
      rw [row_length] at this; exact this
    rw [row_get xs j hj] at hu
    cases hu
    exact hc j (by omega)
  obtain ⟨cs, hcsd⟩ : ∃ cs, cs = row xs := ⟨_, rfl⟩
  have hcn : cs.length = n := by rw [hcsd, row_length]; exact hl
  have hc1 : ∀ u ∈ cs, u.oneCell' = true := by rw [hcsd]; exact row_one xs
  rw [← hcsd] at hcs ⊢
  clear hl hc hcsd
  go_enter Try.func6, Try.ntmps6
  have old : ∀ w1 : World, Below w.heap.size w w1 → ∀ j u, cs[j]? = some u → w1.cell? (a.add j) = some u := by
    intro w1 hb j u hu
    have h0 := hcs j u hu
    exact (hb.cell (World.block_lt_of_cell? w _ h0)).trans h0
  clear hcs
  go_wp2_with (first | (at_make; go_must (refine wpList_make_full _ rfl (.tmp 7) (.tmp 7) 22 rfl w.heap.size 5 i0 (.int .u8 0) 1 Try.underlying22 hi hz0 hz1 .i64 .i64 _ _ n rfl rfl rfl rfl (by rw [hz2]; omega) (by unfold maxLen; omega) (Nat.le_refl _) ?_); intro w1 hown1 hgrow1; obtain ⟨cur, hg1, hcl⟩ := made_block hown1; have hb1 := (Below.refl w.heap.size w).grown hgrow1 (Nat.le_refl _) (fun k hk => by cases hk); have hold := old w1 hb1; clear hown1 hgrow1) | (refine wpList_copy_splice (by rfl) (.tmp 9) (.tmp 10) 22 22 (by rfl) 5 Try.underlying22 hsz (some ⟨w.heap.size, 0, none⟩) (some a) n n n cap (by rfl) (by rfl) w.heap.size 0 cur 5 hg1 cs (by rw [hcn]; exact (Nat.min_self n).symm) (fun _ => ⟨rfl, a, rfl, hold⟩) (by omega) hc1 w.heap.size w hb1 (Nat.le_refl _) ?_; intro w2 HG2 hb2))
  go_ret
  have hsp : splice cur 0 cs = cs := splice_all cur cs (by omega)
  have hg2 := HG2.out
  rw [hsp] at hg2
  refine ⟨_, rfl, ?_, hb2⟩
  rw [HX.out]
  exact ⟨by omega, .inr ⟨w.heap.size, n, cs.toArray, rfl, Nat.le_refl _, hg2, Nat.le_refl _, by unfold maxLen; omega, by simp; omega, by rw [Nat.mul_one]; exact List.take_of_length_le (by simp; omega)⟩⟩

theorem clone_any (w : World) (ao : Option Addr) (n cap : Nat) (xs : List Nat) (h : InRow w ao n xs) (hcap : ao = none → cap = 0) (h1 : n ≤ 1048576) :
    Calls Try.prog 6 #[.slice ao n cap] w fun e w' => ∃ v, e = .returned v ∧ w'.ownsRow w.heap.size 5 1 v xs.length (row xs) ∧ Below w.heap.size w w' := by
  obtain ⟨hl, hn, hc⟩ := h
  cases ao with
  | none =>
    have e1 := hn rfl
    have e2 := hcap rfl
    subst e1 e2
    have e3 : xs = [] := List.eq_nil_of_length_eq_zero hl
    subst e3
    refine (clone_nil w).mono ?_
    rintro e w' ⟨rfl, rfl⟩
    exact ⟨_, rfl, World.ownsRow_nil _ _ _ _, Below.refl _ _⟩
  | some a => exact clone_some w a n cap xs hl (hc a rfl) h1

end Go.Proofs.Qxb6617886a
