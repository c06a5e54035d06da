/-
  THE WALKS of zzKindType (11), zzStartType (13), ZZFits (12) with fits (20): each computes a plain function of its bytes.
-/
import Derived.Test.Qxb6619679aRows
import Derived.WalkKit
import Derived.ProofKit
import Derived.WalkSpells
import Derived.WalkLawsBesides
import Derived.Below
import Derived.Deep.Light
namespace Go.Proofs.Qxb6619679a
open Go.ChangeShapes Go.WideShapes Go.ChangeAt Go.RowKit

theorem ret_int {k : IntKind} {a b : Int} (h : a = b) : Ending.returned (.int k a) = .returned (.int k b) := by rw [h]
theorem ret_bool {a b : Bool} (h : a = b) : Ending.returned (.bool a) = .returned (.bool b) := by rw [h]

/-- The JSON type that a kind takes beside null; 0 where it is no kind. -/
def kt (k : Int) : Int := if k = 0 then 1 else if k = 1 then 2 else if k = 2 ∨ k = 3 then 3 else if k = 6 then 4 else if k = 4 ∨ k = 5 then 5 else 0
/-- The JSON type that a value has which starts with c; 0 for null or none. -/
def st (c : Int) : Int := if c = 123 then 1 else if c = 91 then 2 else if c = 34 then 3 else if c = 116 ∨ c = 102 then 4 else if c = 45 ∨ (48 ≤ c ∧ c ≤ 57) then 5 else 0
/-- What 'fits' answers. -/
def ft (k c : Int) : Bool := if c = 123 then k == 0 else if c = 91 then k == 1 else if c = 34 then (k == 2 || k == 3) else if c = 116 ∨ c = 102 then k == 6
  else if c = 45 ∨ (48 ≤ c ∧ c ≤ 57) then (k == 4 || k == 5) else true

theorem kind_any (k : Int) (w : World) :
    Calls Try.prog 11 #[.int .u8 k] w fun e w' => e = .returned (.int .i64 (kt k)) ∧ w = w' := by
  go_enter Try.func11, Try.ntmps11
  go_wp2
  all_goals go_ret
  all_goals refine ⟨ret_int ?_, rfl⟩
  all_goals go_light
  all_goals simp only [beq_iff_eq, beq_eq_false_iff_ne, ne_eq] at *
  all_goals unfold kt
  all_goals repeat' split
  all_goals omega

theorem start_any (c : Int) (w : World) :
    Calls Try.prog 13 #[.int .u8 c] w fun e w' => e = .returned (.int .i64 (st c)) ∧ w = w' := by
  go_enter Try.func13, Try.ntmps13
  go_wp2
  all_goals go_ret
  all_goals refine ⟨ret_int ?_, rfl⟩
  all_goals go_light
  all_goals simp only [beq_iff_eq, beq_eq_false_iff_ne, ne_eq] at *
  all_goals unfold st
  all_goals repeat' split
  all_goals omega

theorem fits_any (k c : Int) (w : World) :
    Calls Try.prog 12 #[.int .u8 k, .int .u8 c] w fun e w' => e = .returned (.bool (ft k c)) ∧ w = w' := by
  go_enter Try.func12, Try.ntmps12
  go_wp2
  all_goals go_ret
  all_goals refine ⟨ret_bool ?_, rfl⟩
  all_goals go_light
  all_goals simp only [beq_iff_eq, beq_eq_false_iff_ne, ne_eq] at *
  all_goals unfold ft
  all_goals repeat' split
  all_goals first | (exfalso; omega) | rfl | (rw [Bool.eq_iff_iff]; simp only [Bool.or_eq_true, beq_iff_eq, true_iff]; omega)

/-! ### THE PLAIN LAW -/
theorem kt_pos (k : Int) (h : kt k ≠ 0) : 0 ≤ k ∧ k ≤ 6 := by
  unfold kt at h
  repeat' split at h
  all_goals omega

/-- At a kind 'fits' says yes just for null, for what starts no value, and for the kind's own type. -/
theorem ft_eq (k c : Int) (h : kt k ≠ 0) : ft k c = (st c == 0 || st c == kt k) := by
  have hk := kt_pos k h
  clear h
  have e : k = 0 ∨ k = 1 ∨ k = 2 ∨ k = 3 ∨ k = 4 ∨ k = 5 ∨ k = 6 := by omega
  unfold ft st
  rcases e with rfl | rfl | rfl | rfl | rfl | rfl | rfl <;> (repeat' split) <;> rfl

theorem ft_same (k c d : Int) (h : kt k ≠ 0) (hs : (st d == st c) = true) : ft k d = ft k c := by
  rw [ft_eq k d h, ft_eq k c h, beq_iff_eq.1 hs]

/-- Every byte has a home. -/
theorem home (c : Int) : ∃ j : Nat, j < 7 ∧ kt j ≠ 0 ∧ ft j c = true := by
  have hs : st c = 0 ∨ st c = 1 ∨ st c = 2 ∨ st c = 3 ∨ st c = 4 ∨ st c = 5 := by
    unfold st
    repeat' split
    all_goals omega
  rcases hs with e | e | e | e | e | e
  · exact ⟨0, by omega, by decide, by rw [ft_eq _ _ (by decide), e]; rfl⟩
  · exact ⟨0, by omega, by decide, by rw [ft_eq _ _ (by decide), e]; rfl⟩
  · exact ⟨1, by omega, by decide, by rw [ft_eq _ _ (by decide), e]; rfl⟩
  · exact ⟨2, by omega, by decide, by rw [ft_eq _ _ (by decide), e]; rfl⟩
  · exact ⟨6, by omega, by decide, by rw [ft_eq _ _ (by decide), e]; rfl⟩
  · exact ⟨4, by omega, by decide, by rw [ft_eq _ _ (by decide), e]; rfl⟩

end Go.Proofs.Qxb6619679a
