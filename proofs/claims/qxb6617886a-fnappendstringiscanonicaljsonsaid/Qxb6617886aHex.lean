/-
  THE WALK OF zzLowerHex (12) AT A LOWER-CASE DIGIT.
-/
import Derived.Test.Qxb6617886aChecked
import Derived.Test.Qxb6617886aDecLaw
namespace Go.Proofs.Qxb6617886a
open Go.RowKit

theorem ret_two {a b : Int} {p q : Bool} (h : a = b) (h2 : p = q) : Ending.returned (.tuple #[.int .i64 a, .bool p]) = .returned (.tuple #[.int .i64 b, .bool q]) := by rw [h, h2]

theorem hex_dig (d : Int) (w : World) (h1 : 48 ≤ d) (h2 : d ≤ 57) :
    Calls Try.prog 12 #[.int .u8 d] w fun e w' => e = .returned (.tuple #[.int .i64 (d - 48), .bool true]) ∧ w' = w := by
  go_enter Try.func12, Try.ntmps12
  go_wp2
  go_ret2
  exact ⟨rfl, rfl⟩

theorem hex_let (d : Int) (w : World) (h1 : 97 ≤ d) (h2 : d ≤ 102) :
    Calls Try.prog 12 #[.int .u8 d] w fun e w' => e = .returned (.tuple #[.int .i64 (d - 97 + 10), .bool true]) ∧ w' = w := by
  have h3 : ¬ d ≤ 57 := by omega
  go_enter Try.func12, Try.ntmps12
  go_wp2
  go_ret2
  exact ⟨rfl, rfl⟩

theorem hex_any (d p : Nat) (w : World) (hp : p < 16) (hd : d = hexd p) :
    Calls Try.prog 12 #[.int .u8 (d : Int)] w fun e w' => e = .returned (.tuple #[.int .i64 (p : Int), .bool true]) ∧ w' = w := by
  rcases hexd_dec p hp with ⟨h1, h2⟩ | ⟨h1, h2⟩
  · refine (hex_dig (d : Int) w (by omega) (by omega)).mono ?_
    rintro e w' ⟨rfl, rfl⟩
    exact ⟨ret_two (by omega) rfl, rfl⟩
  · refine (hex_let (d : Int) w (by omega) (by omega)).mono ?_
    rintro e w' ⟨rfl, rfl⟩
    exact ⟨ret_two (by omega) rfl, rfl⟩

end Go.Proofs.Qxb6617886a
