/-
  THE WALKS OF enclosedLen (9) AND ZZenclosedLen (6).
-/
import Derived.Test.Qxb6617394aChecked
import Derived.WalkKit
import Derived.WalkLawsBesides
import Derived.WalkSpells
import Derived.Test.Qxb6617394aPlain
namespace Go.Proofs.Qxb6617394a
open Go.RowKit

/-- The byte at i (nought behind the end). -/
def byt (s : ByteArray) (i : Nat) : Nat := if h : i < s.size then (s[i]'h).toNat else 0
theorem byt_at {s : ByteArray} {i : Nat} (h : i < s.size) : byt s i = (s[i]'h).toNat := by simp [byt, h]

theorem ret_two {a b : Int} {p q : Bool} (h : a = b) (h2 : p = q) : Ending.returned (.tuple #[.int .i64 a, .bool p]) = .returned (.tuple #[.int .i64 b, .bool q]) := by rw [h, h2]

set_option maxRecDepth 100000 in
set_option maxHeartbeats 1000000 in
theorem enc_q (s : ByteArray) (w : World) (h1 : 1 ≤ s.size) (h2 : s.size ≤ 4194304) (hq : byt s 0 = 34) :
    Calls Try.prog 9 #[.string s] w fun e w' => e = .returned (.tuple #[.int .i64 (enc true (byt s) s.size s.size 0 0).1, .bool (enc true (byt s) s.size s.size 0 0).2]) ∧ w' = w := by
  obtain ⟨R, hR⟩ : ∃ R, enc true (byt s) s.size s.size 0 0 = R := ⟨_, rfl⟩
  rw [hR]
  have hp : 0 < s.size := by omega
  have a1 : (((s[0]'hp).toNat : Int) == 34) = true := by rw [← byt_at hp, hq]; rfl
  have a2 : (((s[0]'hp).toNat : Int) == 40) = false := by rw [← byt_at hp, hq]; rfl
  clear hq
  have HR : Hid (enc true (byt s) s.size s.size 0 0 = R) := hR
  clear hR
  go_enter Try.func9, Try.ntmps9
  go_wp2
  go_loop [5, 6] (fun dd i => ∃ (k fuel : Nat) (d : Int), k ≤ s.size + 1 ∧ i = .int .i64 k ∧ dd = .int .i64 d ∧ -(k : Int) ≤ d ∧ d ≤ (k : Int) ∧ s.size ≤ k + fuel ∧ Hid (enc true (byt s) s.size fuel k d = R)) (fun _ i => s.size + 1 - (intOf i).toNat)
  case atStart => exact ⟨0, s.size, 0, by omega, rfl, rfl, by omega, by omega, by omega, HR⟩
  case round =>
    obtain ⟨k, fuel, d, hk, rfl, rfl, hd1, hd2, hfu, HE⟩ := hrel
    by_cases hkn : k < s.size
    · obtain ⟨g, rfl⟩ : ∃ g, fuel = g + 1 := ⟨fuel - 1, by omega⟩
      have hb := byt_at hkn
      by_cases c1 : byt s k = 92
      · have e1 : (((s[k]'hkn).toNat : Int) == 92) = true := by rw [← hb, c1]; rfl
        have HE' : Hid (enc true (byt s) s.size g (k + 2) (d) = R) := by have := HE.out; rw [enc_bs hkn c1] at this; exact this
        clear HE c1 hb
        go_wp2
        go_round
        case rel => exact ⟨k + 2, g, d, by omega, by go_num, rfl, by omega, by omega, by omega, HE'⟩
        case measure => simp [intOf]; omega
      have f1 : (((s[k]'hkn).toNat : Int) == 92) = false := by rw [← hb]; simp; omega
      by_cases c2 : byt s k = 34
      · have e2 : (((s[k]'hkn).toNat : Int) == 34) = true := by rw [← hb, c2]; rfl
        by_cases c5 : 0 < k
        · have HE' : Hid ((k + 1, true) = R) := by have := HE.out; rw [enc_qtc hkn c2 rfl c5] at this; exact this
          clear HE c1 c2 hb
          go_wp2
          go_ret2
          exact ⟨ret_two (by rw [← HE'.out]; rfl) (by rw [← HE'.out]), rfl⟩
        · have HE' : Hid (enc true (byt s) s.size g (k + 1) (d) = R) := by have := HE.out; rw [enc_qt hkn c2 (by omega)] at this; exact this
          clear HE c1 c2 hb
          go_wp2
          go_round
          case rel => exact ⟨k + 1, g, d, by omega, by go_num, rfl, by omega, by omega, by omega, HE'⟩
          case measure => simp [intOf]; omega
      have f2 : (((s[k]'hkn).toNat : Int) == 34) = false := by rw [← hb]; simp; omega
      by_cases c3 : byt s k = 40
      · have e3 : (((s[k]'hkn).toNat : Int) == 40) = true := by rw [← hb, c3]; rfl
        have HE' : Hid (enc true (byt s) s.size g (k + 1) (d + 1) = R) := by have := HE.out; rw [enc_op hkn c3] at this; exact this
        clear HE c1 c2 c3 hb
        go_wp2
        go_round
        case rel => exact ⟨k + 1, g, d + 1, by omega, by go_num, rfl, by omega, by omega, by omega, HE'⟩
        case measure => simp [intOf]; omega
      have f3 : (((s[k]'hkn).toNat : Int) == 40) = false := by rw [← hb]; simp; omega
      by_cases c4 : byt s k = 41
      · have e4 : (((s[k]'hkn).toNat : Int) == 41) = true := by rw [← hb, c4]; rfl
        have HE' : Hid (enc true (byt s) s.size g (k + 1) (d - 1) = R) := by have := HE.out; rw [enc_cl hkn c4 (by simp)] at this; exact this
        clear HE c1 c2 c3 c4 hb
        go_wp2
        go_round
        case rel => exact ⟨k + 1, g, d - 1, by omega, by go_num, rfl, by omega, by omega, by omega, HE'⟩
        case measure => simp [intOf]; omega
      have f4 : (((s[k]'hkn).toNat : Int) == 41) = false := by rw [← hb]; simp; omega
      have HE' : Hid (enc true (byt s) s.size g (k + 1) (d) = R) := by have := HE.out; rw [enc_ot hkn c1 c2 c3 c4] at this; exact this
      clear HE c1 c2 c3 c4 hb
      go_wp2
      go_round
      case rel => exact ⟨k + 1, g, d, by omega, by go_num, rfl, by omega, by omega, by omega, HE'⟩
      case measure => simp [intOf]; omega
    · have e := HE.out
      rw [enc_end (by omega)] at e
      subst e
      go_wp2
      go_ret2
      exact ⟨rfl, rfl⟩

set_option maxRecDepth 100000 in
set_option maxHeartbeats 1000000 in
theorem enc_c (s : ByteArray) (w : World) (h1 : 1 ≤ s.size) (h2 : s.size ≤ 4194304) (hq : byt s 0 = 40) :
    Calls Try.prog 9 #[.string s] w fun e w' => e = .returned (.tuple #[.int .i64 (enc false (byt s) s.size s.size 0 0).1, .bool (enc false (byt s) s.size s.size 0 0).2]) ∧ w' = w := by
  obtain ⟨R, hR⟩ : ∃ R, enc false (byt s) s.size s.size 0 0 = R := ⟨_, rfl⟩
  rw [hR]
  have hp : 0 < s.size := by omega
  have a1 : (((s[0]'hp).toNat : Int) == 34) = false := by rw [← byt_at hp, hq]; rfl
  have a2 : (((s[0]'hp).toNat : Int) == 40) = true := by rw [← byt_at hp, hq]; rfl
  clear hq
  have HR : Hid (enc false (byt s) s.size s.size 0 0 = R) := hR
  clear hR
  go_enter Try.func9, Try.ntmps9
  go_wp2
  go_loop [5, 6] (fun dd i => ∃ (k fuel : Nat) (d : Int), k ≤ s.size + 1 ∧ i = .int .i64 k ∧ dd = .int .i64 d ∧ -(k : Int) ≤ d ∧ d ≤ (k : Int) ∧ s.size ≤ k + fuel ∧ Hid (enc false (byt s) s.size fuel k d = R)) (fun _ i => s.size + 1 - (intOf i).toNat)
  case atStart => exact ⟨0, s.size, 0, by omega, rfl, rfl, by omega, by omega, by omega, HR⟩
  case round =>
    obtain ⟨k, fuel, d, hk, rfl, rfl, hd1, hd2, hfu, HE⟩ := hrel
    by_cases hkn : k < s.size
    · obtain ⟨g, rfl⟩ : ∃ g, fuel = g + 1 := ⟨fuel - 1, by omega⟩
      have hb := byt_at hkn
      by_cases c1 : byt s k = 92
      · have e1 : (((s[k]'hkn).toNat : Int) == 92) = true := by rw [← hb, c1]; rfl
        have HE' : Hid (enc false (byt s) s.size g (k + 2) (d) = R) := by have := HE.out; rw [enc_bs hkn c1] at this; exact this
        clear HE c1 hb
        go_wp2
        go_round
        case rel => exact ⟨k + 2, g, d, by omega, by go_num, rfl, by omega, by omega, by omega, HE'⟩
        case measure => simp [intOf]; omega
      have f1 : (((s[k]'hkn).toNat : Int) == 92) = false := by rw [← hb]; simp; omega
      by_cases c2 : byt s k = 34
      · have e2 : (((s[k]'hkn).toNat : Int) == 34) = true := by rw [← hb, c2]; rfl
        have HE' : Hid (enc false (byt s) s.size g (k + 1) (d) = R) := by have := HE.out; rw [enc_qt hkn c2 (by simp)] at this; exact this
        clear HE c1 c2 hb
        go_wp2
        go_round
        case rel => exact ⟨k + 1, g, d, by omega, by go_num, rfl, by omega, by omega, by omega, HE'⟩
        case measure => simp [intOf]; omega
      have f2 : (((s[k]'hkn).toNat : Int) == 34) = false := by rw [← hb]; simp; omega
      by_cases c3 : byt s k = 40
      · have e3 : (((s[k]'hkn).toNat : Int) == 40) = true := by rw [← hb, c3]; rfl
        have HE' : Hid (enc false (byt s) s.size g (k + 1) (d + 1) = R) := by have := HE.out; rw [enc_op hkn c3] at this; exact this
        clear HE c1 c2 c3 hb
        go_wp2
        go_round
        case rel => exact ⟨k + 1, g, d + 1, by omega, by go_num, rfl, by omega, by omega, by omega, HE'⟩
        case measure => simp [intOf]; omega
      have f3 : (((s[k]'hkn).toNat : Int) == 40) = false := by rw [← hb]; simp; omega
      by_cases c4 : byt s k = 41
      · have e4 : (((s[k]'hkn).toNat : Int) == 41) = true := by rw [← hb, c4]; rfl
        by_cases c5 : d - 1 = 0
        · have e5 : ((d - 1) == (0 : Int)) = true := by simpa using c5
          have HE' : Hid ((k + 1, true) = R) := by have := HE.out; rw [enc_clc hkn c4 rfl c5] at this; exact this
          clear HE c1 c2 c3 c4 c5 hb
          go_wp2
          go_ret2
          exact ⟨ret_two (by rw [← HE'.out]; rfl) (by rw [← HE'.out]), rfl⟩
        · have e5 : ((d - 1) == (0 : Int)) = false := by simpa using c5
          have HE' : Hid (enc false (byt s) s.size g (k + 1) (d - 1) = R) := by have := HE.out; rw [enc_cl hkn c4 (by simp [c5])] at this; exact this
          clear HE c1 c2 c3 c4 c5 hb
          go_wp2
          go_round
          case rel => exact ⟨k + 1, g, d - 1, by omega, by go_num, rfl, by omega, by omega, by omega, HE'⟩
          case measure => simp [intOf]; omega
      have f4 : (((s[k]'hkn).toNat : Int) == 41) = false := by rw [← hb]; simp; omega
      have HE' : Hid (enc false (byt s) s.size g (k + 1) (d) = R) := by have := HE.out; rw [enc_ot hkn c1 c2 c3 c4] at this; exact this
      clear HE c1 c2 c3 c4 hb
      go_wp2
      go_round
      case rel => exact ⟨k + 1, g, d, by omega, by go_num, rfl, by omega, by omega, by omega, HE'⟩
      case measure => simp [intOf]; omega
    · have e := HE.out
      rw [enc_end (by omega)] at e
      subst e
      go_wp2
      go_ret2
      exact ⟨rfl, rfl⟩

theorem enc_any (s : ByteArray) (w : World) (q : Bool) (h1 : 1 ≤ s.size) (h2 : s.size ≤ 4194304) (hq : if q = true then byt s 0 = 34 else byt s 0 = 40) :
    Calls Try.prog 9 #[.string s] w fun e w' => e = .returned (.tuple #[.int .i64 (enc q (byt s) s.size s.size 0 0).1, .bool (enc q (byt s) s.size s.size 0 0).2]) ∧ w' = w := by
  cases q with
  | true => exact enc_q s w h1 h2 (by simpa using hq)
  | false => exact enc_c s w h1 h2 (by simpa using hq)

theorem zzenc_any (s : ByteArray) (w : World) (R : Nat × Bool) (q : Bool) (h1 : 1 ≤ s.size) (h2 : s.size ≤ 4194304) (hq : if q = true then byt s 0 = 34 else byt s 0 = 40) (hR : enc q (byt s) s.size s.size 0 0 = R) :
    Calls Try.prog 6 #[.string s] w fun e w' => e = .returned (.tuple #[.int .i64 R.1, .bool R.2]) ∧ w' = w := by
  have hc := enc_any s w q h1 h2 hq
  rw [hR] at hc
  clear hR hq
  go_enter Try.func6, Try.ntmps6
  go_wp2_with (go_at_call 9; refine hc.mono ?_; rintro e w' ⟨rfl, rfl⟩)
  go_ret2
  exact ⟨rfl, rfl⟩

end Go.Proofs.Qxb6617394a
