/-
  THE WALK OF FnEnclosedLenClosesOnItsCloserIgnoresTheTailAndNests (4).
-/
import Derived.Test.Qxb6617394aBytes
namespace Go.Proofs.Qxb6617394a
open Go.RowKit

/-- The string that nests the closed comment. -/
def nested (s t : ByteArray) (r : Nat) : ByteArray := ByteArray.mk #[40] ++ s.extract 0 r ++ ByteArray.mk #[41] ++ t

theorem nested_size (s t : ByteArray) (r : Nat) (h : r ≤ s.size) : (nested s t r).size = r + 2 + t.size := by
  unfold nested
  simp only [ByteArray.size_append, ByteArray.size_extract]
  have e1 : (ByteArray.mk #[40]).size = 1 := rfl
  have e2 : (ByteArray.mk #[41]).size = 1 := rfl
  omega

theorem nested_bytes (s t : ByteArray) (r : Nat) (h : r ≤ s.size) : byt (nested s t r) 0 = 40 ∧ (∀ j, j < r → byt (nested s t r) (j + 1) = byt s j) ∧ byt (nested s t r) (r + 1) = 41 := by
  have z1 : (ByteArray.mk #[40]).size = 1 := rfl
  have z2 : (ByteArray.mk #[41]).size = 1 := rfl
  have z3 : (s.extract 0 r).size = r := by simp; omega
  have z4 : (ByteArray.mk #[40] ++ s.extract 0 r).size = r + 1 := by rw [ByteArray.size_append]; omega
  have z5 : (ByteArray.mk #[40] ++ s.extract 0 r ++ ByteArray.mk #[41]).size = r + 2 := by rw [ByteArray.size_append]; omega
  unfold nested
  refine ⟨?_, fun j hj => ?_, ?_⟩
  · rw [byt_app_l _ _ _ (by omega), byt_app_l _ _ _ (by omega), byt_app_l _ _ _ (by omega)]; rfl
  · rw [byt_app_l _ _ _ (by omega), byt_app_l _ _ _ (by omega)]
    have := byt_app_r (ByteArray.mk #[40]) (s.extract 0 r) j
    rw [z1, Nat.add_comm] at this
    rw [this, byt_cut s r j hj h]
  · rw [byt_app_l _ _ _ (by omega)]
    have := byt_app_r (ByteArray.mk #[40] ++ s.extract 0 r) (ByteArray.mk #[41]) 0
    rw [z4, Nat.add_zero] at this
    rw [this]; rfl

theorem zz8_any (s t : ByteArray) (w : World) (h2 : s.size ≤ 524288) (h3 : t.size ≤ 524288) :
    Calls Try.prog 8 #[.string s, .string t] w fun e w' => e = .returned (.bool true) ∧ w' = w := by
  go_enter Try.func8, Try.ntmps8
  go_wp2
  go_ret
  exact ⟨rfl, rfl⟩

set_option maxRecDepth 100000 in
theorem closes_open (s t : ByteArray) (w : World) (q : Bool) (h1 : 1 ≤ s.size) (h2 : s.size ≤ 524288) (h3 : t.size ≤ 524288) (hq : if q = true then byt s 0 = 34 else byt s 0 = 40)
    (hR : enc q (byt s) s.size s.size 0 0 = (s.size, false)) :
    Calls Try.prog 4 #[.string s, .string t] w fun e w' => e = .returned (.bool true) ∧ w' = w := by
  have hc : Calls Try.prog 6 #[.string s] w fun e w' => e = .returned (.tuple #[.int .i64 s.size, .bool false]) ∧ w' = w := zzenc_any s w (s.size, false) q h1 (by omega) hq hR
  have hp : 0 < s.size := by omega
  have z0 : ((s.size : Int) == 0) = false := by
    cases hz : ((s.size : Int) == 0)
    · rfl
    · have : (s.size : Int) = 0 := by simpa using hz
      omega
  clear hR
  cases q with
  | true =>
    have hq' : byt s 0 = 34 := by simpa using hq
    have a1 : (((s[0]'hp).toNat : Int) == 34) = true := by rw [← byt_at hp, hq']; rfl
    have a2 : (((s[0]'hp).toNat : Int) == 40) = false := by rw [← byt_at hp, hq']; rfl
    have a3 : (((s[0]'hp).toNat : Int) != 34) = false := by simp only [bne, a1]; rfl
    clear hq hq'
    go_enter Try.func4, Try.ntmps4
    go_wp2_with (first | (go_at_call 6; refine hc.mono ?_; rintro e w' ⟨rfl, rfl⟩) | go_in)
    go_ret
    exact ⟨rfl, rfl⟩
  | false =>
    have hq' : byt s 0 = 40 := by simpa using hq
    have a1 : (((s[0]'hp).toNat : Int) == 34) = false := by rw [← byt_at hp, hq']; rfl
    have a2 : (((s[0]'hp).toNat : Int) == 40) = true := by rw [← byt_at hp, hq']; rfl
    have a3 : (((s[0]'hp).toNat : Int) != 34) = true := by simp only [bne, a1]; rfl
    have a4 : (((s[0]'hp).toNat : Int) != 40) = false := by simp only [bne, a2]; rfl
    clear hq hq'
    go_enter Try.func4, Try.ntmps4
    go_wp2_with (first | (go_at_call 6; refine hc.mono ?_; rintro e w' ⟨rfl, rfl⟩) | go_in)
    go_ret
    exact ⟨rfl, rfl⟩

set_option maxRecDepth 100000 in
theorem closes_q (s t : ByteArray) (w : World) (r : Nat) (h1 : 1 ≤ s.size) (h2 : s.size ≤ 524288) (h3 : t.size ≤ 524288) (hq : byt s 0 = 34) (hR : enc true (byt s) s.size s.size 0 0 = (r, true)) :
    Calls Try.prog 4 #[.string s, .string t] w fun e w' => e = .returned (.bool true) ∧ w' = w := by
  have hst : enc true (byt s) s.size (s.size - 1 + 1) 0 0 = _ := enc_start h1 (by rw [if_pos rfl]; exact hq) (s.size - 1)
  rw [Nat.sub_add_cancel h1, hR] at hst
  obtain ⟨g1, g2, g3⟩ := enc_closed _ _ _ _ hst.symm
  rw [if_pos rfl] at g3
  have hz : (s.extract 0 r ++ t).size = r + t.size := by rw [ByteArray.size_append, ByteArray.size_extract]; omega
  have ht : enc true (byt (s.extract 0 r ++ t)) (s.extract 0 r ++ t).size (s.extract 0 r ++ t).size 0 0 = (r, true) :=
    enc_tail _ _ _ _ _ hR (fun j hj => by rw [byt_app_l _ _ _ (by rw [ByteArray.size_extract]; omega), byt_cut s r j hj g2]) (by omega) (by omega)
  have hb0 : byt (s.extract 0 r ++ t) 0 = 34 := by rw [byt_app_l _ _ _ (by rw [ByteArray.size_extract]; omega), byt_cut s r 0 (by omega) g2, hq]
  have hc : Calls Try.prog 6 #[.string s] w fun e w' => e = .returned (.tuple #[.int .i64 r, .bool true]) ∧ w' = w := zzenc_any s w (r, true) true h1 (by omega) (by rw [if_pos rfl]; exact hq) hR
  have hc2 : Calls Try.prog 6 #[.string (s.extract 0 r ++ t)] w fun e w' => e = .returned (.tuple #[.int .i64 r, .bool true]) ∧ w' = w := zzenc_any _ w (r, true) true (by omega) (by omega) (by rw [if_pos rfl]; exact hb0) ht
  have hp : 0 < s.size := by omega
  have z0 : ((s.size : Int) == 0) = false := by
    cases hz : ((s.size : Int) == 0)
    · rfl
    · have : (s.size : Int) = 0 := by simpa using hz
      omega
  have a1 : (((s[0]'hp).toNat : Int) == 34) = true := by rw [← byt_at hp, hq]; rfl
  have a2 : (((s[0]'hp).toNat : Int) == 40) = false := by rw [← byt_at hp, hq]; rfl
  have a3 : (((s[0]'hp).toNat : Int) != 34) = false := by simp only [bne, a1]; rfl
  have hr1 : r - 1 < s.size := by omega
  have a5 : (((s[r - 1]'hr1).toNat : Int) != 34) = false := by rw [← byt_at hr1, g3]; rfl
  clear hst hR ht hb0 hz hq g3
  go_enter Try.func4, Try.ntmps4
  go_wp2_with fail
  refine (zz8_any s t w h2 h3).mono ?_
  rintro e w' ⟨rfl, hw⟩
  subst hw
  go_wp2_with fail
  refine hc.mono ?_
  rintro e w' ⟨rfl, hw⟩
  subst hw
  clear hc
  go_wp2_with fail
  refine hc2.mono ?_
  rintro e w' ⟨rfl, hw⟩
  subst hw
  clear hc2
  go_wp2_with fail
  go_ret
  exact ⟨rfl, rfl⟩

set_option maxRecDepth 100000 in
theorem closes_c (s t : ByteArray) (w : World) (r : Nat) (h1 : 1 ≤ s.size) (h2 : s.size ≤ 524288) (h3 : t.size ≤ 524288) (hq : byt s 0 = 40) (hR : enc false (byt s) s.size s.size 0 0 = (r, true)) :
    Calls Try.prog 4 #[.string s, .string t] w fun e w' => e = .returned (.bool true) ∧ w' = w := by
  have hst : enc false (byt s) s.size (s.size - 1 + 1) 0 0 = _ := enc_start h1 (by rw [if_neg Bool.false_ne_true]; exact hq) (s.size - 1)
  rw [Nat.sub_add_cancel h1, hR] at hst
  obtain ⟨g1, g2, g3⟩ := enc_closed _ _ _ _ hst.symm
  rw [if_neg Bool.false_ne_true] at g3
  have hz : (s.extract 0 r ++ t).size = r + t.size := by rw [ByteArray.size_append, ByteArray.size_extract]; omega
  have ht : enc false (byt (s.extract 0 r ++ t)) (s.extract 0 r ++ t).size (s.extract 0 r ++ t).size 0 0 = (r, true) :=
    enc_tail _ _ _ _ _ hR (fun j hj => by rw [byt_app_l _ _ _ (by rw [ByteArray.size_extract]; omega), byt_cut s r j hj g2]) (by omega) (by omega)
  have hb0 : byt (s.extract 0 r ++ t) 0 = 40 := by rw [byt_app_l _ _ _ (by rw [ByteArray.size_extract]; omega), byt_cut s r 0 (by omega) g2, hq]
  have hc : Calls Try.prog 6 #[.string s] w fun e w' => e = .returned (.tuple #[.int .i64 r, .bool true]) ∧ w' = w := zzenc_any s w (r, true) false h1 (by omega) (by rw [if_neg Bool.false_ne_true]; exact hq) hR
  have hc2 : Calls Try.prog 6 #[.string (s.extract 0 r ++ t)] w fun e w' => e = .returned (.tuple #[.int .i64 r, .bool true]) ∧ w' = w := zzenc_any _ w (r, true) false (by omega) (by omega) (by rw [if_neg Bool.false_ne_true]; exact hb0) ht
  have hp : 0 < s.size := by omega
  have z0 : ((s.size : Int) == 0) = false := by
    cases hz : ((s.size : Int) == 0)
    · rfl
    · have : (s.size : Int) = 0 := by simpa using hz
      omega
  have a1 : (((s[0]'hp).toNat : Int) == 34) = false := by rw [← byt_at hp, hq]; rfl
  have a2 : (((s[0]'hp).toNat : Int) == 40) = true := by rw [← byt_at hp, hq]; rfl
  have a3 : (((s[0]'hp).toNat : Int) != 34) = true := by simp only [bne, a1]; rfl
  have a4 : (((s[0]'hp).toNat : Int) != 40) = false := by simp only [bne, a2]; rfl
  obtain ⟨n1, n2, n3⟩ := nested_bytes s t r g2
  have nz := nested_size s t r g2
  have hne : enc false (byt (nested s t r)) (nested s t r).size (nested s t r).size 0 0 = (r + 2, true) := by
    obtain ⟨m, hm⟩ : ∃ m, (nested s t r).size = m + 1 := ⟨(nested s t r).size - 1, by omega⟩
    have e0 := enc_start (q := false) (f := byt (nested s t r)) (n := (nested s t r).size) (by omega) (by rw [if_neg Bool.false_ne_true]; exact n1) m
    rw [← hm, if_neg Bool.false_ne_true] at e0
    rw [e0]
    obtain ⟨m', rfl⟩ : ∃ m', m = m' + 1 := ⟨m - 1, by omega⟩
    rw [enc_op (by omega) (by rw [n2 0 (by omega)]; exact hq)]
    have h1' := hst.symm
    rw [if_neg Bool.false_ne_true] at h1'
    exact enc_nest _ 1 1 r m' (by omega) h1' n2 n3 (by omega) (by omega)
  have hc3 : Calls Try.prog 6 #[.string (nested s t r)] w fun e w' => e = .returned (.tuple #[.int .i64 ((r + 2 : Nat) : Int), .bool true]) ∧ w' = w := zzenc_any _ w (r + 2, true) false (by omega) (by omega) (by rw [if_neg Bool.false_ne_true]; exact n1) hne
  unfold nested at hc3
  clear n1 n2 n3 nz hne
  have hr1 : r - 1 < s.size := by omega
  have a5 : (((s[r - 1]'hr1).toNat : Int) != 41) = false := by rw [← byt_at hr1, g3]; rfl
  clear hst hR ht hb0 hz hq g3
  go_enter Try.func4, Try.ntmps4
  go_wp2_with fail
  refine (zz8_any s t w h2 h3).mono ?_
  rintro e w' ⟨rfl, hw⟩
  subst hw
  go_wp2_with fail
  refine hc.mono ?_
  rintro e w' ⟨rfl, hw⟩
  subst hw
  clear hc
  go_wp2_with fail
  refine hc2.mono ?_
  rintro e w' ⟨rfl, hw⟩
  subst hw
  clear hc2
  go_wp2_with fail
  refine hc3.mono ?_
  rintro e w' ⟨rfl, hw⟩
  subst hw
  clear hc3
  go_wp2_with fail
  go_ret
  exact ⟨rfl, rfl⟩

end Go.Proofs.Qxb6617394a
