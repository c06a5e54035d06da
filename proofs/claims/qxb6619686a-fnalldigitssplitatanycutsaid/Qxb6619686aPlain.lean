/-
  THE PLAIN LAWS: digits in a text that is cut, or into which another is put.
-/
import Derived.Test.Qxb6619686aNumeral
namespace Go.Proofs.Qxb6619686a
open Go.RowKit

theorem grown_drewN {W w' : World} (h : Grown W w') (m : Nat) : Grown W (w'.drewN m) := h

/-- Every byte is a digit; the empty text too. -/
def al (s : ByteArray) : Bool := s.data.toList.all dg

theorem al_cut (s : ByteArray) (k : Nat) : al s = (al (s.extract 0 k) && al (s.extract k s.size)) := by
  have e1 : (s.extract 0 k).data.toList = s.data.toList.take k := by simp [ByteArray.data_extract]
  have e2 : (s.extract k s.size).data.toList = s.data.toList.drop k := by
    simp only [ByteArray.data_extract, Array.toList_extract, List.extract_eq_take_drop]
    rw [List.take_of_length_le (by rw [List.length_drop, len_eq]; omega)]
  unfold al
  rw [e1, e2, ← List.all_append, List.take_append_drop]

theorem ad_pos (s : ByteArray) (h : 0 < s.size) : ad s = al s := by
  have : s.data.toList.isEmpty = false := by
    rw [List.isEmpty_eq_false_iff]
    intro e; have := congrArg List.length e; rw [len_eq] at this; simp only [List.length_nil] at this; omega
  simp [ad, adL, al, this]

theorem al_app (a b : ByteArray) : al (a ++ b) = (al a && al b) := by simp [al, ByteArray.data_append, List.all_append]

theorem ad_size (s : ByteArray) (h : ad s = true) : 0 < s.size := by
  rcases Nat.eq_zero_or_pos s.size with e | e
  · rw [ad_empty s e] at h; cases h
  · exact e

/-- THE PLAIN LAW: with a text that is accepted put in at k, the whole is accepted where every byte of s is a digit. -/
theorem ad_ins (s t : ByteArray) (k : Nat) (ht : 0 < t.size) : ad (s.extract 0 k ++ t ++ s.extract k s.size) = (al t && al s) := by
  rw [ad_pos _ (by simp only [ByteArray.size_append]; omega), al_app, al_app, al_cut s k]
  cases al (s.extract 0 k) <;> cases al t <;> cases al (s.extract k s.size) <;> rfl

theorem ins_size (s t : ByteArray) (k : Nat) (hs : s.size ≤ 1048576) (ht : t.size ≤ 20) : (s.extract 0 k ++ t ++ s.extract k s.size).size ≤ 2097152 := by
  simp only [ByteArray.size_append, ByteArray.size_extract]; omega

theorem nonempty_of (s : ByteArray) (h : 0 < s.size) : s.toList.isEmpty = false := by
  rw [ByteArray.toList_eq, List.isEmpty_eq_false_iff]
  intro e; have := congrArg List.length e; rw [len_eq] at this; simp only [List.length_nil] at this; omega

theorem empty_of (s : ByteArray) (h : s.size = 0) : s = ByteArray.empty := ByteArray.ext (Array.eq_empty_of_size_eq_zero h)

end Go.Proofs.Qxb6619686a
