/-
  THE WALKS of allDigits (10) and ZZallDigits (7): not empty, and every byte is a digit.
-/
import Derived.Test.Qxb6619686aRows
import Derived.WalkKit
import Derived.ProofKit
import Derived.WalkSpells
import Derived.WalkLawsBesides
import Derived.Below
namespace Go.Proofs.Qxb6619686a
open Go.ChangeShapes Go.WideShapes Go.ChangeAt Go.RowKit

theorem ret_b {a b : Bool} (h : a = b) : Ending.returned (.bool a) = .returned (.bool b) := by rw [h]

/-- A digit. -/
def dg (c : UInt8) : Bool := decide (48 ≤ c.toNat) && decide (c.toNat ≤ 57)
/-- What 'allDigits' answers, of the list of bytes. -/
def adL (l : List UInt8) : Bool := !l.isEmpty && l.all dg
def ad (s : ByteArray) : Bool := adL s.data.toList

theorem dg_iff (c : UInt8) : dg c = true ↔ 48 ≤ c.toNat ∧ c.toNat ≤ 57 := by simp [dg]

theorem len_eq (s : ByteArray) : s.data.toList.length = s.size := Array.length_toList

theorem ad_empty (s : ByteArray) (h : s.size = 0) : ad s = false := by
  have : s.data.toList = [] := List.eq_nil_of_length_eq_zero (by simpa using h)
  simp [ad, adL, this]

theorem ad_true (s : ByteArray) (h0 : 0 < s.size) (h : ∀ j (hj : j < s.size), 48 ≤ s[j].toNat ∧ s[j].toNat ≤ 57) : ad s = true := by
  have hne : s.data.toList ≠ [] := by intro e; have := congrArg List.length e; rw [len_eq] at this; simp only [List.length_nil] at this; omega
  unfold ad adL
  rw [Bool.and_eq_true]
  refine ⟨by simpa using hne, ?_⟩
  rw [List.all_eq_true]
  intro c hc
  obtain ⟨j, hj, e⟩ := List.getElem_of_mem hc
  have hj' : j < s.size := by simpa using hj
  have := h j hj'
  rw [dg_iff, ← e]
  exact this

theorem ad_false (s : ByteArray) (j : Nat) (hj : j < s.size) (h : s[j].toNat < 48 ∨ 57 < s[j].toNat) : ad s = false := by
  rw [← Bool.not_eq_true]
  intro e
  unfold ad adL at e
  rw [Bool.and_eq_true, List.all_eq_true] at e
  have hm : s[j] ∈ s.data.toList := by
    have : s.data.toList[j]'(by simpa using hj) = s[j] := rfl
    rw [← this]; exact List.getElem_mem _
  have := (dg_iff _).1 (e.2 _ hm)
  omega

set_option maxHeartbeats 400000 in
theorem digits_any (s : ByteArray) (w : World) (hs : s.size ≤ 2097152) :
    Calls Try.prog 10 #[.string s] w fun e w' => e = .returned (.bool (ad s)) ∧ w = w' := by
  by_cases h0 : s.size = 0
  · have e : s = ByteArray.empty := ByteArray.ext (Array.eq_empty_of_size_eq_zero h0)
    rw [ad_empty s h0]
    subst e
    go_enter Try.func10, Try.ntmps10
    go_wp2
    go_ret
    exact ⟨rfl, rfl⟩
  · have hem : s.toList.isEmpty = false := by
      rw [ByteArray.toList_eq, List.isEmpty_eq_false_iff]
      intro e; have := congrArg List.length e; rw [len_eq] at this; simp only [List.length_nil] at this; omega
    go_enter Try.func10, Try.ntmps10
    go_wp2
    go_loop [3] (fun i => ∃ k : Nat, k ≤ s.size ∧ i = .int .i64 k ∧ Hid (∀ j (_ : j < s.size), j < k → 48 ≤ s[j].toNat ∧ s[j].toNat ≤ 57)) (fun i => s.size - (intOf i).toNat)
    case atStart => exact ⟨0, Nat.zero_le _, rfl, fun j _ h => absurd h (Nat.not_lt_zero _)⟩
    case round =>
      obtain ⟨k, hk, rfl, Hd⟩ := hrel
      by_cases hlt : k < s.size
      · by_cases hd : 48 ≤ s[k].toNat ∧ s[k].toNat ≤ 57
        · have h1 : (48 : Int) ≤ (s[k].toNat : Int) := by omega
          have h2 : (s[k].toNat : Int) ≤ 57 := by omega
          have HD : Hid (48 ≤ s[k].toNat ∧ s[k].toNat ≤ 57) := hd
          clear hd
          go_wp2
          go_round
          case rel => exact ⟨k + 1, by omega, by go_num, fun j hj hjk => by
            rcases Nat.lt_or_ge j k with h | h
            · exact Hd.out j hj h
            · have : j = k := by omega
              subst this; exact HD.out⟩
          case measure => simp [intOf]; omega
        · have HF : Hid (ad s = false) := ad_false s k hlt (by omega)
          by_cases h1 : s[k].toNat < 48
          · have h1' : (s[k].toNat : Int) < 48 := by omega
            clear hd h1
            go_wp2
            go_ret
            exact ⟨ret_b HF.out.symm, rfl⟩
          · have h1' : (48 : Int) ≤ (s[k].toNat : Int) := by omega
            have h2' : (57 : Int) < (s[k].toNat : Int) := by omega
            clear hd h1
            go_wp2
            go_ret
            exact ⟨ret_b HF.out.symm, rfl⟩
      · have HT : Hid (ad s = true) := ad_true s (by omega) (fun j hj => Hd.out j hj (by omega))
        go_wp2
        go_ret
        exact ⟨ret_b HT.out.symm, rfl⟩

theorem zzdigits_any (s : ByteArray) (w : World) (hs : s.size ≤ 2097152) :
    Calls Try.prog 7 #[.string s] w fun e w' => e = .returned (.bool (ad s)) ∧ w = w' := by
  go_enter Try.func7, Try.ntmps7
  go_wp2_with (go_at_call 10; refine (digits_any _ _ hs).mono ?_; rintro e w' ⟨rfl, rfl⟩)
  go_ret
  exact ⟨rfl, rfl⟩

end Go.Proofs.Qxb6619686a
