/-
  THE WALK OF enclosedModel (7).
-/
import Derived.Test.Qxb6617394aBytes
namespace Go.Proofs.Qxb6617394a
open Go.RowKit

set_option maxRecDepth 100000 in
set_option maxHeartbeats 1000000 in
theorem mdl_q (s : ByteArray) (w : World) (h1 : 1 ≤ s.size) (h2 : s.size ≤ 4194304) (hq : byt s 0 = 34) :
    Calls Try.prog 7 #[.string s] w fun e w' => e = .returned (.tuple #[.int .i64 (mdl true (byt s) s.size s.size 1 0 1).1, .bool (mdl true (byt s) s.size s.size 1 0 1).2]) ∧ w' = w := by
  obtain ⟨R, hR⟩ : ∃ R, mdl true (byt s) s.size s.size 1 0 1 = R := ⟨_, rfl⟩
  rw [hR]
  have hp : 0 < s.size := by omega
  have a2 : (((s[0]'hp).toNat : Int) == 40) = false := by rw [← byt_at hp, hq]; rfl
  clear hq
  have HR : Hid (mdl true (byt s) s.size s.size 1 0 1 = R) := hR
  clear hR
  go_enter Try.func7, Try.ntmps7
  go_wp2
  go_loop [5, 6, 7] (fun rr dd i => ∃ (k fuel run : Nat) (d : Int), k ≤ s.size ∧ i = .int .i64 k ∧ rr = .int .i64 run ∧ dd = .int .i64 d ∧ 1 ≤ k ∧ run ≤ k ∧ -(k : Int) ≤ d ∧ d ≤ (k : Int) ∧ s.size ≤ k + fuel ∧ Hid (mdl true (byt s) s.size fuel k run d = R)) (fun _ _ i => s.size + 1 - (intOf i).toNat)
  case atStart => exact ⟨1, s.size, 0, 1, by omega, rfl, rfl, rfl, by omega, by omega, by omega, by omega, by omega, HR⟩
  case round =>
    obtain ⟨k, fuel, run, d, hk, rfl, rfl, rfl, hk1, hrk, hd1, hd2, hfu, HE⟩ := hrel
    by_cases hkn : k < s.size
    · obtain ⟨g, rfl⟩ : ∃ g, fuel = g + 1 := ⟨fuel - 1, by omega⟩
      have hb := byt_at hkn
      by_cases co : run % 2 = 1
      · have o1 : ((run : Int) % 2 == 1) = true := by
          rw [show (run : Int) % 2 = 1 by omega]; rfl
        by_cases c1 : byt s k = 92
        · have e1 : (((s[k]'hkn).toNat : Int) == 92) = true := by rw [← hb, c1]; rfl
          have HE' : Hid (mdl true (byt s) s.size g (k + 1) (run + 1) (d) = R) := by have := HE.out; rw [mdl_skip hkn (.inr c1), if_pos c1] at this; exact this
          clear HE c1 hb
          go_wp2
          go_round
          case rel => exact ⟨k + 1, g, run + 1, d, by omega, by go_num, by go_num, rfl, by omega, by omega, by omega, by omega, by omega, HE'⟩
          case measure => simp [intOf]; omega
        · have f1 : (((s[k]'hkn).toNat : Int) == 92) = false := by rw [← hb]; simp; omega
          have HE' : Hid (mdl true (byt s) s.size g (k + 1) (0) (d) = R) := by have := HE.out; rw [mdl_skip hkn (.inl co), if_neg c1] at this; exact this
          clear HE c1 hb
          go_wp2
          go_round
          case rel => exact ⟨k + 1, g, 0, d, by omega, by go_num, by go_num, rfl, by omega, by omega, by omega, by omega, by omega, HE'⟩
          case measure => simp [intOf]; omega
      · have o1 : ((run : Int) % 2 == 1) = false := by
          rw [show (run : Int) % 2 = 0 by omega]; rfl
        by_cases c1 : byt s k = 92
        · have e1 : (((s[k]'hkn).toNat : Int) == 92) = true := by rw [← hb, c1]; rfl
          have HE' : Hid (mdl true (byt s) s.size g (k + 1) (run + 1) (d) = R) := by have := HE.out; rw [mdl_skip hkn (.inr c1), if_pos c1] at this; exact this
          clear HE c1 hb
          go_wp2
          go_round
          case rel => exact ⟨k + 1, g, run + 1, d, by omega, by go_num, by go_num, rfl, by omega, by omega, by omega, by omega, by omega, HE'⟩
          case measure => simp [intOf]; omega
        · have f1 : (((s[k]'hkn).toNat : Int) == 92) = false := by rw [← hb]; simp; omega
          have hne : ¬ (run % 2 = 1 ∨ byt s k = 92) := by omega
          by_cases c2 : byt s k = 34
          · have e2 : (((s[k]'hkn).toNat : Int) == 34) = true := by rw [← hb, c2]; rfl
            have HE' : Hid ((k + 1, true) = R) := by have := HE.out; rw [mdl_qc hkn hne rfl c2] at this; exact this
            clear HE c1 c2 hne hb
            go_wp2
            go_ret2
            exact ⟨ret_two (by rw [← HE'.out]; rfl) (by rw [← HE'.out]), rfl⟩
          · have f2 : (((s[k]'hkn).toNat : Int) == 34) = false := by rw [← hb]; simp; omega
            have HE' : Hid (mdl true (byt s) s.size g (k + 1) (0) (d) = R) := by have := HE.out; rw [mdl_qo hkn hne rfl c2] at this; exact this
            clear HE c1 c2 hne hb
            go_wp2
            go_round
            case rel => exact ⟨k + 1, g, 0, d, by omega, by go_num, by go_num, rfl, by omega, by omega, by omega, by omega, by omega, HE'⟩
            case measure => simp [intOf]; omega
    · have e := HE.out
      rw [mdl_end (by omega)] at e
      subst e
      go_wp2
      go_ret2
      exact ⟨rfl, rfl⟩

set_option maxRecDepth 100000 in
set_option maxHeartbeats 1000000 in
theorem mdl_c (s : ByteArray) (w : World) (h1 : 1 ≤ s.size) (h2 : s.size ≤ 4194304) (hq : byt s 0 = 40) :
    Calls Try.prog 7 #[.string s] w fun e w' => e = .returned (.tuple #[.int .i64 (mdl false (byt s) s.size s.size 1 0 1).1, .bool (mdl false (byt s) s.size s.size 1 0 1).2]) ∧ w' = w := by
  obtain ⟨R, hR⟩ : ∃ R, mdl false (byt s) s.size s.size 1 0 1 = R := ⟨_, rfl⟩
  rw [hR]
  have hp : 0 < s.size := by omega
  have a2 : (((s[0]'hp).toNat : Int) == 40) = true := by rw [← byt_at hp, hq]; rfl
  clear hq
  have HR : Hid (mdl false (byt s) s.size s.size 1 0 1 = R) := hR
  clear hR
  go_enter Try.func7, Try.ntmps7
  go_wp2
  go_loop [5, 6, 7] (fun rr dd i => ∃ (k fuel run : Nat) (d : Int), k ≤ s.size ∧ i = .int .i64 k ∧ rr = .int .i64 run ∧ dd = .int .i64 d ∧ 1 ≤ k ∧ run ≤ k ∧ -(k : Int) ≤ d ∧ d ≤ (k : Int) ∧ s.size ≤ k + fuel ∧ Hid (mdl false (byt s) s.size fuel k run d = R)) (fun _ _ i => s.size + 1 - (intOf i).toNat)
  case atStart => exact ⟨1, s.size, 0, 1, by omega, rfl, rfl, rfl, by omega, by omega, by omega, by omega, by omega, HR⟩
  case round =>
    obtain ⟨k, fuel, run, d, hk, rfl, rfl, rfl, hk1, hrk, hd1, hd2, hfu, HE⟩ := hrel
    by_cases hkn : k < s.size
    · obtain ⟨g, rfl⟩ : ∃ g, fuel = g + 1 := ⟨fuel - 1, by omega⟩
      have hb := byt_at hkn
      by_cases co : run % 2 = 1
      · have o1 : ((run : Int) % 2 == 1) = true := by
          rw [show (run : Int) % 2 = 1 by omega]; rfl
        by_cases c1 : byt s k = 92
        · have e1 : (((s[k]'hkn).toNat : Int) == 92) = true := by rw [← hb, c1]; rfl
          have HE' : Hid (mdl false (byt s) s.size g (k + 1) (run + 1) (d) = R) := by have := HE.out; rw [mdl_skip hkn (.inr c1), if_pos c1] at this; exact this
          clear HE c1 hb
          go_wp2
          go_round
          case rel => exact ⟨k + 1, g, run + 1, d, by omega, by go_num, by go_num, rfl, by omega, by omega, by omega, by omega, by omega, HE'⟩
          case measure => simp [intOf]; omega
        · have f1 : (((s[k]'hkn).toNat : Int) == 92) = false := by rw [← hb]; simp; omega
          have HE' : Hid (mdl false (byt s) s.size g (k + 1) (0) (d) = R) := by have := HE.out; rw [mdl_skip hkn (.inl co), if_neg c1] at this; exact this
          clear HE c1 hb
          go_wp2
          go_round
          case rel => exact ⟨k + 1, g, 0, d, by omega, by go_num, by go_num, rfl, by omega, by omega, by omega, by omega, by omega, HE'⟩
          case measure => simp [intOf]; omega
      · have o1 : ((run : Int) % 2 == 1) = false := by
          rw [show (run : Int) % 2 = 0 by omega]; rfl
        by_cases c1 : byt s k = 92
        · have e1 : (((s[k]'hkn).toNat : Int) == 92) = true := by rw [← hb, c1]; rfl
          have HE' : Hid (mdl false (byt s) s.size g (k + 1) (run + 1) (d) = R) := by have := HE.out; rw [mdl_skip hkn (.inr c1), if_pos c1] at this; exact this
          clear HE c1 hb
          go_wp2
          go_round
          case rel => exact ⟨k + 1, g, run + 1, d, by omega, by go_num, by go_num, rfl, by omega, by omega, by omega, by omega, by omega, HE'⟩
          case measure => simp [intOf]; omega
        · have f1 : (((s[k]'hkn).toNat : Int) == 92) = false := by rw [← hb]; simp; omega
          have hne : ¬ (run % 2 = 1 ∨ byt s k = 92) := by omega
          by_cases c4 : byt s k = 41
          · have e4 : (((s[k]'hkn).toNat : Int) == 41) = true := by rw [← hb, c4]; rfl
            have f3 : (((s[k]'hkn).toNat : Int) == 40) = false := by rw [← hb, c4]; rfl
            by_cases c5 : d - 1 = 0
            · have e5 : ((d - 1) == (0 : Int)) = true := by simpa using c5
              have HE' : Hid ((k + 1, true) = R) := by have := HE.out; rw [mdl_clc hkn hne rfl c4 c5] at this; exact this
              clear HE c1 c4 c5 hne hb
              go_wp2
              go_ret2
              exact ⟨ret_two (by rw [← HE'.out]; rfl) (by rw [← HE'.out]), rfl⟩
            · have e5 : ((d - 1) == (0 : Int)) = false := by simpa using c5
              have HE' : Hid (mdl false (byt s) s.size g (k + 1) (0) (d - 1) = R) := by have := HE.out; rw [mdl_cl hkn hne rfl c4 c5] at this; exact this
              clear HE c1 c4 c5 hne hb
              go_wp2
              go_round
              case rel => exact ⟨k + 1, g, 0, d - 1, by omega, by go_num, by go_num, rfl, by omega, by omega, by omega, by omega, by omega, HE'⟩
              case measure => simp [intOf]; omega
          · have f4 : (((s[k]'hkn).toNat : Int) == 41) = false := by rw [← hb]; simp; omega
            by_cases c3 : byt s k = 40
            · have e3 : (((s[k]'hkn).toNat : Int) == 40) = true := by rw [← hb, c3]; rfl
              have HE' : Hid (mdl false (byt s) s.size g (k + 1) (0) (d + 1) = R) := by have := HE.out; rw [mdl_ot hkn hne rfl c4, if_pos c3] at this; exact this
              clear HE c1 c4 c3 hne hb
              go_wp2
              go_round
              case rel => exact ⟨k + 1, g, 0, d + 1, by omega, by go_num, by go_num, rfl, by omega, by omega, by omega, by omega, by omega, HE'⟩
              case measure => simp [intOf]; omega
            · have f3 : (((s[k]'hkn).toNat : Int) == 40) = false := by rw [← hb]; simp; omega
              have HE' : Hid (mdl false (byt s) s.size g (k + 1) (0) (d) = R) := by have := HE.out; rw [mdl_ot hkn hne rfl c4, if_neg c3] at this; exact this
              clear HE c1 c4 c3 hne hb
              go_wp2
              go_round
              case rel => exact ⟨k + 1, g, 0, d, by omega, by go_num, by go_num, rfl, by omega, by omega, by omega, by omega, by omega, HE'⟩
              case measure => simp [intOf]; omega
    · have e := HE.out
      rw [mdl_end (by omega)] at e
      subst e
      go_wp2
      go_ret2
      exact ⟨rfl, rfl⟩

end Go.Proofs.Qxb6617394a
