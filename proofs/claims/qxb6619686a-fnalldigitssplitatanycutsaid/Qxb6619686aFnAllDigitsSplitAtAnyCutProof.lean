import Derived.Test.Qxb6619686aMid
import Derived.Test.Qxb6619686aEnds
import Derived.WalkKit
import Derived.ProofKit
import Derived.OpenShut
import Derived.ShutString
namespace Go.Proofs.Qxb6619686a.fnAllDigitsSplitAtAnyCut
open Go.ChangeShapes Go.WideShapes Go.ChangeAt Go.RowKit
open Go.ChangeMaps (open_string shut_string)
set_option linter.unusedVariables false      -- a walk need not use every 'w<i>' (that an integer argument fits its kind)

theorem own : ownKnob Try.prog.godebug = none := by kernel_rfl

/-- Past the first tests: the ways put together. -/
theorem ways (s : ByteArray) (kN cN : Nat) (w : World) (hs : s.size ≤ 1048576) (hk : kN ≤ s.size) (hc : cN ≤ 255) :
    Calls Try.prog 4 #[.string s, .int .i64 kN, .int .u8 cN] w fun e w' => e = .returned (.bool true) ∧ Grown w w' := by
  have hO := one_ad cN hc
  have hI := ad_one s kN cN hc
  have hA := al_cut s kN
  by_cases h0 : s.size = 0
  · have hem : s.toList.isEmpty = true := by rw [ByteArray.toList_eq, empty_of s h0]; rfl
    have hk0 : ((kN : Int) == 0) = true := beq_iff_eq.2 (by omega)
    have hkl : ((kN : Int) == (s.size : Int)) = true := beq_iff_eq.2 (by omega)
    have hal : al s = true := by rw [empty_of s h0]; rfl
    cases hD : dN cN
    · exact at_nothing_false s kN cN w hs hk hc hem hk0 hkl (ad_empty s h0) (by rw [hI, hD]; rfl) (by rw [hO, hD]) hD
    · exact at_nothing_true s kN cN w hs hk hc hem hk0 hkl (ad_empty s h0) (by rw [hI, hD, hal]; rfl) (by rw [hO, hD]) hD
  · have hp : 0 < s.size := by omega
    have hem := nonempty_of s hp
    have hS := ad_pos s hp
    by_cases k0 : kN = 0
    · have hk0 : ((kN : Int) == 0) = true := beq_iff_eq.2 (by omega)
      have hkl : ((kN : Int) == (s.size : Int)) = false := beq_eq_false_iff_ne.2 (by omega)
      have hl : al (s.extract 0 kN) = true := by rw [empty_of (s.extract 0 kN) (by rw [ByteArray.size_extract]; omega)]; rfl
      have hr : ad (s.extract kN s.size) = al (s.extract kN s.size) := ad_pos _ (by rw [ByteArray.size_extract]; omega)
      have hW : ad s = ad (s.extract kN s.size) := by rw [hS, hA, hl, hr, Bool.true_and]
      cases hD : dN cN
      · exact at_head_false s kN cN w hs hk hc hem hk0 hkl hW (by rw [hI, hD]; rfl) (by rw [hO, hD]) hD
      · exact at_head_true s kN cN w hs hk hc hem hk0 hkl hW (by rw [hI, hD, ← hS, hW, Bool.true_and]) (by rw [hO, hD]) hD
    · have hk0 : ((kN : Int) == 0) = false := beq_eq_false_iff_ne.2 (by omega)
      have hl : ad (s.extract 0 kN) = al (s.extract 0 kN) := ad_pos _ (by rw [ByteArray.size_extract]; omega)
      by_cases kl : kN = s.size
      · have hkl : ((kN : Int) == (s.size : Int)) = true := beq_iff_eq.2 (by omega)
        have hr : al (s.extract kN s.size) = true := by rw [empty_of (s.extract kN s.size) (by rw [ByteArray.size_extract]; omega)]; rfl
        have hW : ad s = ad (s.extract 0 kN) := by rw [hS, hA, hl, hr, Bool.and_true]
        cases hD : dN cN
        · cases hL : ad (s.extract 0 kN)
          · exact at_end_no_false s kN cN w hs hk hc hem hk0 hkl hL (by rw [hW, hL]) (by rw [hI, hD]; rfl) (by rw [hO, hD]) hD
          · exact at_end_yes_false s kN cN w hs hk hc hem hk0 hkl hL (by rw [hW, hL]) (by rw [hI, hD]; rfl) (by rw [hO, hD]) hD
        · cases hL : ad (s.extract 0 kN)
          · exact at_end_no_true s kN cN w hs hk hc hem hk0 hkl hL (by rw [hW, hL]) (by rw [hI, ← hS, hW, hL, Bool.and_false]) (by rw [hO, hD]) hD
          · exact at_end_yes_true s kN cN w hs hk hc hem hk0 hkl hL (by rw [hW, hL]) (by rw [hI, ← hS, hW, hL, hD]; rfl) (by rw [hO, hD]) hD
      · have hkl : ((kN : Int) == (s.size : Int)) = false := beq_eq_false_iff_ne.2 (by omega)
        have hr : ad (s.extract kN s.size) = al (s.extract kN s.size) := ad_pos _ (by rw [ByteArray.size_extract]; omega)
        have hW : ad s = (ad (s.extract 0 kN) && ad (s.extract kN s.size)) := by rw [hS, hA, hl, hr]
        cases hD : dN cN
        · cases hL : ad (s.extract 0 kN)
          · exact mid_no_false s kN cN w hs hk hc hem hk0 hkl hL (by rw [hW, hL, Bool.false_and]) (by rw [hI, hD]; rfl) (by rw [hO, hD]) hD
          · exact mid_left_false s kN cN w hs hk hc hem hk0 hkl hL (by rw [hW, hL, Bool.true_and]) (by rw [hI, hD]; rfl) (by rw [hO, hD]) hD
        · cases hL : ad (s.extract 0 kN)
          · exact mid_no_true s kN cN w hs hk hc hem hk0 hkl hL (by rw [hW, hL, Bool.false_and]) (by rw [hI, ← hS, hW, hL, Bool.false_and, Bool.and_false]) (by rw [hO, hD]) hD
          · exact mid_left_true s kN cN w hs hk hc hem hk0 hkl hL (by rw [hW, hL, Bool.true_and]) (by rw [hI, ← hS, hW, hL, hD, Bool.true_and, Bool.true_and]) (by rw [hO, hD]) hD

/-! ### STEP 1: THE WALK: the Go text returns true. 'Grown w w'': the world has at most new blocks (Derived/RowKit3.lean). Part the cases AHEAD of 'go_enter' where a test parts the walk; take each callee by a contract of your own. -/
theorem walk (a0 : ByteArray) (a1 : Int) (a2 : Int) (w0 : a0.size ≤ maxLen) (w1 : (Lit.int .i64 a1).wf = true) (w2 : (Lit.int .u8 a2).wf = true) (w : World) :
    Calls Try.prog 4 #[.string a0, .int .i64 a1, .int .u8 a2] w fun e w' => e = .returned (.bool true) ∧ Grown w w' := by
  unfold maxLen at w0
  have b2 := bounds_u8 w2
  clear w1 w2
  by_cases c1 : a0.size ≤ 1048576
  · by_cases c2 : 0 ≤ a1
    · by_cases c3 : a1 ≤ (a0.size : Int)
      · obtain ⟨kN, rfl⟩ := Int.eq_ofNat_of_zero_le c2
        obtain ⟨n, rfl⟩ := Int.eq_ofNat_of_zero_le b2.1
        exact ways a0 kN n w c1 (by omega) (by omega)
      · clear b2
        go_enter Try.func4, Try.ntmps4
        go_wp2
        go_ret
        exact ⟨rfl, Grown.refl _⟩
    · clear b2
      go_enter Try.func4, Try.ntmps4
      go_wp2
      go_ret
      exact ⟨rfl, Grown.refl _⟩
  · clear b2
    go_enter Try.func4, Try.ntmps4
    go_wp2
    go_ret
    exact ⟨rfl, Grown.refl _⟩

/-! ### THE ROW's STEP: WRITTEN OUT: LEAVE IT -/
set_option maxRecDepth 100000 in
theorem lifted (os : Os) (started : os.Started) (H : Type) (enc : TypeId × Value → H) :
    ReturnsInHanded {} Try.checked os 4 .any (Rows.fnAllDigitsSplitAtAnyCutSpec.pre6 enc Try.prog Try.f4 Rows.fnAllDigitsSplitAtAnyCutRow.domain false) (Rows.fnAllDigitsSplitAtAnyCutSpec.post enc Try.prog Try.f4 false true false false) := by
  refine returnsInHanded_of_change (C := Try.checked) own started (by kernel_rfl) Try.func4
    (ChangeSpec.witness6 (enc := enc) (C := Try.checked) false ⟨#[], #[.string ByteArray.empty, .int .i64 0, .int .u8 0], []⟩ 8 (by kernel_rfl) (by kernel_rfl) (by kernel_rfl) (by kernel_rfl)) ?_
  intro W base args ds gs before hval0 hW hcnd _
  have hval : ∀ (j : Nat) t v, Try.f4.params[j]? = some t → args[j]? = some v → Value.okWide Try.prog W .any base t v := hval0
  have hW' := hW
  obtain ⟨p, q, hA0, hV, rfl, hfz, hnd⟩ := hW
  have hA : DataW.TrodAll enc Try.prog W 0 (fun _ => true) true Try.f4.params.toList args.toList ds p := hA0
  rw [Try.params4] at hA hval
  obtain ⟨v0, vs0, d0, ds0, p0, q0, hargs, rfl, rfl, h0, r0⟩ := trodAll_cons hA
  obtain ⟨v1, vs1, d1, ds1, p1, q1, rfl, rfl, rfl, h1, r1⟩ := trodAll_cons r0
  obtain ⟨v2, vs2, d2, ds2, p2, q2, rfl, rfl, rfl, h2, r2⟩ := trodAll_cons r1
  obtain ⟨rfl, rfl, rfl⟩ := trodAll_nil r2
  obtain rfl : args = #[v0, v1, v2] := by cases args; simp_all
  obtain ⟨rfl, rfl⟩ := trodVars_none hV
  obtain ⟨a0, rfl, rfl, rfl, w0⟩ := open_string Try.underlying9 (hval 0 9 v0 rfl rfl) h0
  obtain ⟨a1, rfl, rfl, rfl, w1⟩ := open_int Try.underlying3 (hval 1 3 v1 rfl rfl) h1
  obtain ⟨a2, rfl, rfl, rfl, w2⟩ := open_int Try.underlying5 (hval 2 5 v2 rfl rfl) h2
  clear hA0 hval0
  simp only [List.append_nil] at hW'
  refine (walk a0 a1 a2 w0 w1 w2 W).mono fun e W' ⟨he, hg⟩ => ?_
  subst he
  exact ⟨_, rfl, post_of_same (pa := []) (pv := []) hW' (fun _ _ _ => (trodAll_cons_mk (shut_bool Try.underlying4 _) trodAll_mk0)) (fun sp _ => (trodAll_cons_mk (shut_string Try.underlying9 w0) (trodAll_cons_mk (shut_int Try.underlying3 w1) (trodAll_cons_mk (shut_int Try.underlying5 w2) trodAll_mk0)))) (fun _ _ => rfl) rfl
    (hg.frame _) hg.2.1 (ok_one (by kernel_rfl) rfl (okWide_bool_mk Try.underlying4 _))⟩

theorem over : Rows.fnAllDigitsSplitAtAnyCutRow.holds Try.pinned (OpenSpec.ofChange Rows.fnAllDigitsSplitAtAnyCutSpec) :=
  OpenClaim.holds_of_wide 4 Try.f4 rfl rfl rfl rfl rfl rfl rfl ⟨rfl, rfl, rfl, rfl, rfl⟩ rfl rfl rfl rfl rfl (by kernel_rfl) Try.func4 (by kernel_rfl)
    (of_decide_eq_true (by kernel_rfl)) (by unfold Func.isWrapper; first | (rw [if_pos (by decide +kernel)]; kernel_rfl) | (rw [if_neg (by decide +kernel)]; exact ⟨rfl, rfl⟩))
    (fun os started H enc _ => lifted os started H enc)

/-- ████ THE STATEMENT ████ -/
theorem proved : Rows.FnAllDigitsSplitAtAnyCutSaid :=
  over
end Go.Proofs.Qxb6619686a.fnAllDigitsSplitAtAnyCut

namespace Go.Proofs.Qxb6619686a
/-- THE STATEMENT, under a short name. -/
theorem fnAllDigitsSplitAtAnyCut_proved : Rows.FnAllDigitsSplitAtAnyCutSaid := fnAllDigitsSplitAtAnyCut.proved
end Go.Proofs.Qxb6619686a
