/-
  BYTES OF STRINGS PUT TOGETHER AND CUT.
-/
import Derived.Test.Qxb6617394aEnc
namespace Go.Proofs.Qxb6617394a
open Go.RowKit

theorem byt_list (s : ByteArray) (i : Nat) : byt s i = (s.data.toList.getD i 0).toNat := by
  unfold byt
  split
  · rename_i h
    rw [List.getD_eq_getElem?_getD, List.getElem?_eq_getElem (by simpa using h)]
    rfl
  · rename_i h
    rw [List.getD_eq_getElem?_getD, List.getElem?_eq_none (by simpa using h)]
    rfl

theorem byt_app_l (a b : ByteArray) (i : Nat) (h : i < a.size) : byt (a ++ b) i = byt a i := by
  have e : (a ++ b).data.toList = a.data.toList ++ b.data.toList := by simp
  have hl : a.data.toList.length = a.size := by simp
  rw [byt_list, byt_list, e, List.getD_eq_getElem?_getD, List.getD_eq_getElem?_getD, List.getElem?_append_left (by omega)]

theorem byt_app_r (a b : ByteArray) (i : Nat) : byt (a ++ b) (a.size + i) = byt b i := by
  have e : (a ++ b).data.toList = a.data.toList ++ b.data.toList := by simp
  have hl : a.data.toList.length = a.size := by simp
  rw [byt_list, byt_list, e, List.getD_eq_getElem?_getD, List.getD_eq_getElem?_getD, List.getElem?_append_right (by omega), hl, Nat.add_sub_cancel_left]

theorem byt_cut (s : ByteArray) (r i : Nat) (h : i < r) (hr : r ≤ s.size) : byt (s.extract 0 r) i = byt s i := by
  have hz : i < (s.extract 0 r).size := by simp; omega
  rw [byt_at hz, byt_at (show i < s.size by omega)]
  simp [ByteArray.getElem_extract]

end Go.Proofs.Qxb6617394a
