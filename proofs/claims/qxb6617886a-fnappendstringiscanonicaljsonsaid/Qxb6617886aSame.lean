/-
  THE WALK OF zzSameAsString (9) AT A ROW THAT HOLDS THE STRING'S OWN BYTES, AND OF zzBytes_.. (5).
-/
import Derived.Test.Qxb6617886aClone
import Derived.Test.Qxb6617886aSplitLaw
import Derived.Deep.QuietTactic
import Derived.BigQuiet
namespace Go.Proofs.Qxb6617886a
open Go.RowKit

theorem bytes_get (s : ByteArray) (k : Nat) (h : k < s.size) : (bytes s).getD k 0 = (s[k]'h).toNat := by
  rw [List.getD_eq_getElem?_getD, List.getElem?_eq_getElem (by rw [bytes_length]; exact h)]
  simp [bytes]
  rfl

theorem zz5_any (ao : Option Addr) (m cap : Nat) (s : ByteArray) (w : World) (h : m + s.size ≤ 1048576) :
    Calls Try.prog 5 #[.slice ao m cap, .string s] w fun e w' => e = .returned (.bool true) ∧ w' = w := by
  go_enter Try.func5, Try.ntmps5
  go_wp2
  go_ret
  exact ⟨rfl, rfl⟩

set_option maxRecDepth 100000 in
theorem same_any (s : ByteArray) (ao : Option Addr) (cap : Nat) (w : World) (base : Nat) (ho : w.ownsRow base 5 1 (.slice ao s.size cap) s.size (row (bytes s))) (h1 : s.size ≤ 1048576) :
    Calls Try.prog 9 #[.slice ao s.size cap, .string s] w fun e w' => e = .returned (.bool true) ∧ ∃ n, w' = w.drewN n := by
  have hpos : 0 < s.size → ∃ g, ao = some ⟨g, 0, none⟩ := by
    intro hp
    obtain ⟨g, cap', e, _⟩ := ho.form hp
    simp only [Value.slice.injEq, true_and] at e
    exact ⟨g, e.1⟩
  have HC : Hid (∀ g, ao = some ⟨g, 0, none⟩ → ∀ j, (h : j < s.size) → w.cell? ⟨g, j, none⟩ = some (.int .u8 (((s[j]'h).toNat : Nat) : Int))) := by
    intro g hg j hj
    subst hg
    rw [ho.cellAt j (by omega), row_get _ j (by rw [bytes_length]; exact hj), bytes_get s j hj]
  clear ho
  go_enter Try.func9, Try.ntmps9
  go_wp2
  go_loopw [5] (fun i wr => ∃ j n : Nat, j ≤ s.size ∧ i = .int .i64 j ∧ wr = w.drewN n) (fun i _ => s.size - (intOf i).toNat)
  case atStart => exact ⟨0, 0, Nat.zero_le _, rfl, rfl⟩
  case round =>
    obtain ⟨j, n, hj, rfl, rfl⟩ := hrel
    by_cases hjb : j < s.size
    · obtain ⟨g, hg⟩ := hpos (by omega)
      have x := HC.out g hg j hjb
      clear hpos HC
      subst hg
      go_wp2_with fail
      go_quiet (fail)
      go_wp2
      go_roundw
      case rel => exact ⟨j + 1, _, by omega, by go_num, rfl⟩
      case measure => simp [intOf]; omega
    · clear hpos HC
      go_wp2
      go_ret
      exact ⟨rfl, _, rfl⟩

end Go.Proofs.Qxb6617886a
