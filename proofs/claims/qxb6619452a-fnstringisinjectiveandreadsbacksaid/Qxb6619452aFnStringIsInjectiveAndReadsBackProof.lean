import Derived.Test.Qxb6619452aWalks
import Derived.WalkKit
import Derived.ProofKit
import Derived.OpenShut
import Derived.ShutString
namespace Go.Proofs.Qxb6619452a.fnStringIsInjectiveAndReadsBack
open Go.ChangeShapes Go.WideShapes Go.ChangeAt Go.RowKit
open Go.ChangeMaps (open_string shut_string)
set_option linter.unusedVariables false      -- a walk need not use every 'w<i>' (that an integer argument fits its kind)

theorem own : ownKnob Try.prog.godebug = none := by kernel_rfl

/-- Two lines are one exactly where the flags and the patterns are. -/
theorem line_beq (a b : Bool) (p q : ByteArray) : ((line a p).toList == (line b q).toList) = (a == b && p.toList == q.toList) := by
  rw [Bool.eq_iff_iff]
  simp only [ByteArray.toList_eq, line, ByteArray.data_append, Array.toList_append, beq_iff_eq, Bool.and_eq_true]
  cases a <;> cases b <;> simp [pre]

/-! ### STEP 1: THE WALK, a theorem a way -/
theorem walk_same (a0 : Bool) (a1 : ByteArray) (w : World) (c1 : a1.size ≤ 1048576) (c2 : a1.size + a1.size ≤ 1048576) :
    Calls Try.prog 5 #[.bool a0, .string a1, .bool a0, .string a1] w fun e w' => e = .returned (.bool true) ∧ Grown w w' := by
  go_enter Try.func5, Try.ntmps5
  go_wp2_with (first | (go_at_call 10; go_in) | (go_at_call 7; refine (string_any _ _ _ (by assumption)).mono ?_; rintro e w' ⟨rfl, rfl⟩) | (go_at_call 8; refine (readBack_line _ _ _ (by assumption)).mono ?_; rintro e w' ⟨rfl, m, rfl⟩))
  go_ret
  exact ⟨rfl, Grown.drewN (((Grown.refl _).alloc _ _).alloc _ _) _⟩

theorem walk_flag (a0 a2 : Bool) (a1 a3 : ByteArray) (w : World) (c1 : a1.size ≤ 1048576) (c3 : a3.size ≤ 1048576) (c2 : a1.size + a3.size ≤ 1048576)
    (hb : (a0 == a2) = false) (heq : ((line a0 a1).toList == (line a2 a3).toList) = false) :
    Calls Try.prog 5 #[.bool a0, .string a1, .bool a2, .string a3] w fun e w' => e = .returned (.bool true) ∧ Grown w w' := by
  go_enter Try.func5, Try.ntmps5
  go_wp2_with (first | (go_at_call 10; go_in) | (go_at_call 7; refine (string_any _ _ _ (by assumption)).mono ?_; rintro e w' ⟨rfl, rfl⟩) | (go_at_call 8; refine (readBack_line _ _ _ (by assumption)).mono ?_; rintro e w' ⟨rfl, m, rfl⟩))
  go_ret
  exact ⟨rfl, Grown.drewN (((Grown.refl _).alloc _ _).alloc _ _) _⟩

theorem walk_pat (a0 : Bool) (a1 a3 : ByteArray) (w : World) (c1 : a1.size ≤ 1048576) (c3 : a3.size ≤ 1048576) (c2 : a1.size + a3.size ≤ 1048576)
    (hp : (a1.toList == a3.toList) = false) (heq : ((line a0 a1).toList == (line a0 a3).toList) = false) :
    Calls Try.prog 5 #[.bool a0, .string a1, .bool a0, .string a3] w fun e w' => e = .returned (.bool true) ∧ Grown w w' := by
  go_enter Try.func5, Try.ntmps5
  go_wp2_with (first | (go_at_call 10; go_in) | (go_at_call 7; refine (string_any _ _ _ (by assumption)).mono ?_; rintro e w' ⟨rfl, rfl⟩) | (go_at_call 8; refine (readBack_line _ _ _ (by assumption)).mono ?_; rintro e w' ⟨rfl, m, rfl⟩))
  go_ret
  exact ⟨rfl, Grown.drewN (((Grown.refl _).alloc _ _).alloc _ _) _⟩

theorem walk (a0 : Bool) (a1 : ByteArray) (a2 : Bool) (a3 : ByteArray) (w1 : a1.size ≤ maxLen) (w3 : a3.size ≤ maxLen) (w : World) :
    Calls Try.prog 5 #[.bool a0, .string a1, .bool a2, .string a3] w fun e w' => e = .returned (.bool true) ∧ Grown w w' := by
  unfold maxLen at w1 w3
  by_cases c1 : a1.size ≤ 1048576
  · by_cases c2 : a1.size + a3.size ≤ 1048576
    · have c3 : a3.size ≤ 1048576 := by omega
      by_cases cb : a0 = a2
      · subst cb
        by_cases cp : a1 = a3
        · subst cp
          exact walk_same a0 a1 w c1 c2
        · have hp : (a1.toList == a3.toList) = false := by
            rw [beq_eq_false_iff_ne]; intro h; apply cp; rw [ByteArray.toList_eq, ByteArray.toList_eq] at h; exact ByteArray.ext (Array.toList_inj.1 h)
          exact walk_pat a0 a1 a3 w c1 c3 c2 hp (by rw [line_beq, hp, Bool.and_false])
      · have hb : (a0 == a2) = false := beq_eq_false_iff_ne.2 cb
        exact walk_flag a0 a2 a1 a3 w c1 c3 c2 hb (by rw [line_beq, hb, Bool.false_and])
    · by_cases c3 : a3.size ≤ 1048576
      all_goals
        go_enter Try.func5, Try.ntmps5
        go_wp2
        go_ret
        exact ⟨rfl, by repeat (first | exact Grown.refl _ | apply Grown.drew | apply Grown.alloc)⟩
  · go_enter Try.func5, Try.ntmps5
    go_wp2
    go_ret
    exact ⟨rfl, by repeat (first | exact Grown.refl _ | apply Grown.drew | apply Grown.alloc)⟩

/-! ### THE ROW's STEP: WRITTEN OUT: LEAVE IT -/
set_option maxRecDepth 100000 in
theorem lifted (os : Os) (started : os.Started) (H : Type) (enc : TypeId × Value → H) :
    ReturnsInHanded {} Try.checked os 5 .any (Rows.fnStringIsInjectiveAndReadsBackSpec.pre6 enc Try.prog Try.f5 Rows.fnStringIsInjectiveAndReadsBackRow.domain false) (Rows.fnStringIsInjectiveAndReadsBackSpec.post enc Try.prog Try.f5 false true false false) := by
  refine returnsInHanded_of_change (C := Try.checked) own started (by kernel_rfl) Try.func5
    (ChangeSpec.witness6 (enc := enc) (C := Try.checked) false ⟨#[], #[.bool false, .string ByteArray.empty, .bool false, .string ByteArray.empty], []⟩ 8 (by kernel_rfl) (by kernel_rfl) (by kernel_rfl) (by kernel_rfl)) ?_
  intro W base args ds gs before hval0 hW hcnd _
  have hval : ∀ (j : Nat) t v, Try.f5.params[j]? = some t → args[j]? = some v → Value.okWide Try.prog W .any base t v := hval0
  have hW' := hW
  obtain ⟨p, q, hA0, hV, rfl, hfz, hnd⟩ := hW
  have hA : DataW.TrodAll enc Try.prog W 0 (fun _ => true) true Try.f5.params.toList args.toList ds p := hA0
  rw [Try.params5] at hA hval
  obtain ⟨v0, vs0, d0, ds0, p0, q0, hargs, rfl, rfl, h0, r0⟩ := trodAll_cons hA
  obtain ⟨v1, vs1, d1, ds1, p1, q1, rfl, rfl, rfl, h1, r1⟩ := trodAll_cons r0
  obtain ⟨v2, vs2, d2, ds2, p2, q2, rfl, rfl, rfl, h2, r2⟩ := trodAll_cons r1
  obtain ⟨v3, vs3, d3, ds3, p3, q3, rfl, rfl, rfl, h3, r3⟩ := trodAll_cons r2
  obtain ⟨rfl, rfl, rfl⟩ := trodAll_nil r3
  obtain rfl : args = #[v0, v1, v2, v3] := by cases args; simp_all
  obtain ⟨rfl, rfl⟩ := trodVars_none hV
  obtain ⟨a0, rfl, rfl, rfl⟩ := open_bool Try.underlying4 (hval 0 4 v0 rfl rfl) h0
  obtain ⟨a1, rfl, rfl, rfl, w1⟩ := open_string Try.underlying9 (hval 1 9 v1 rfl rfl) h1
  obtain ⟨a2, rfl, rfl, rfl⟩ := open_bool Try.underlying4 (hval 2 4 v2 rfl rfl) h2
  obtain ⟨a3, rfl, rfl, rfl, w3⟩ := open_string Try.underlying9 (hval 3 9 v3 rfl rfl) h3
  clear hA0 hval0
  simp only [List.append_nil] at hW'
  refine (walk a0 a1 a2 a3 w1 w3 W).mono fun e W' ⟨he, hg⟩ => ?_
  subst he
  exact ⟨_, rfl, post_of_same (pa := []) (pv := []) hW' (fun _ _ _ => (trodAll_cons_mk (shut_bool Try.underlying4 _) trodAll_mk0)) (fun sp _ => (trodAll_cons_mk (shut_bool Try.underlying4 _) (trodAll_cons_mk (shut_string Try.underlying9 w1) (trodAll_cons_mk (shut_bool Try.underlying4 _) (trodAll_cons_mk (shut_string Try.underlying9 w3) trodAll_mk0))))) (fun _ _ => rfl) rfl
    (hg.frame _) hg.2.1 (ok_one (by kernel_rfl) rfl (okWide_bool_mk Try.underlying4 _))⟩

theorem over : Rows.fnStringIsInjectiveAndReadsBackRow.holds Try.pinned (OpenSpec.ofChange Rows.fnStringIsInjectiveAndReadsBackSpec) :=
  OpenClaim.holds_of_wide 5 Try.f5 rfl rfl rfl rfl rfl rfl rfl ⟨rfl, rfl, rfl, rfl, rfl⟩ rfl rfl rfl rfl rfl (by kernel_rfl) Try.func5 (by kernel_rfl)
    (of_decide_eq_true (by kernel_rfl)) (by unfold Func.isWrapper; first | (rw [if_pos (by decide +kernel)]; kernel_rfl) | (rw [if_neg (by decide +kernel)]; exact ⟨rfl, rfl⟩))
    (fun os started H enc _ => lifted os started H enc)

/-- ████ THE STATEMENT ████ -/
theorem proved : Rows.FnStringIsInjectiveAndReadsBackSaid :=
  over
end Go.Proofs.Qxb6619452a.fnStringIsInjectiveAndReadsBack

namespace Go.Proofs.Qxb6619452a
/-- THE STATEMENT, under a short name. -/
theorem fnStringIsInjectiveAndReadsBack_proved : Rows.FnStringIsInjectiveAndReadsBackSaid := fnStringIsInjectiveAndReadsBack.proved
end Go.Proofs.Qxb6619452a
