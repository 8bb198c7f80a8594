/-
  THE WALKS OF THE SMALL FUNCTIONS: zzSame (12), zzBytes.. (13).
-/
import Derived.Test.Qxb6617322aChecked
import Derived.WalkKit
import Derived.WalkLawsBesides
import Derived.WalkSpells
import Derived.Deep.QuietTactic
import Derived.BigQuiet
import Derived.Test.Qxb6617322aFloat
namespace Go.Proofs.Qxb6617322a
open Go.RowKit Fl

theorem zzSame_any (x y : Nat) (w : World) :
    Calls Try.prog 12 #[.float .f64 x, .float .f64 y] w fun e w' => e = .returned (.bool (sameB x y)) ∧ w' = w := by
  unfold sameB
  cases h1 : ((FloatKind.f64).format.order x y == some .eq)
  · cases h2 : ((FloatKind.f64).format.order x x != some .eq)
    · go_enter Try.func12, Try.ntmps12
      go_wp2
      go_ret
      exact ⟨rfl, rfl⟩
    · go_enter Try.func12, Try.ntmps12
      go_wp2
      go_ret
      exact ⟨rfl, rfl⟩
  · go_enter Try.func12, Try.ntmps12
    go_wp2
    go_ret
    exact ⟨rfl, rfl⟩

end Go.Proofs.Qxb6617322a
