/-
  THE WALK of zzIsNumeralByte (9).
-/
import Derived.Test.Qxb6619686aItoa
namespace Go.Proofs.Qxb6619686a
open Go.ChangeShapes Go.WideShapes Go.ChangeAt Go.RowKit

theorem grown_trans {a b c : World} (h : Grown a b) (k : Grown b c) : Grown a c :=
  ⟨World.keptBut_trans h.1 (World.keptBut_mono (fun _ f => f.elim) k.1), fun x => (k.2.1 x).trans (h.2.1 x), Nat.le_trans h.2.2 k.2.2⟩

set_option maxHeartbeats 400000 in
theorem numeral_any (c : Int) (w : World) :
    Calls Try.prog 9 #[.int .u8 c] w fun e w' => e = .returned (.bool (decide (48 ≤ c ∧ c ≤ 57))) ∧ Grown w w' := by
  go_enter Try.func9, Try.ntmps9
  go_wp2
  go_loopw [3] (fun d wr => ∃ k : Nat, k ≤ 10 ∧ d = .int .u64 k ∧ Hid (Grown w wr) ∧ Hid (∀ j : Nat, j < k → c ≠ 48 + (j : Int))) (fun d _ => 10 - (intOf d).toNat)
  case atStart => exact ⟨0, Nat.zero_le _, rfl, Grown.refl _, fun j h => absurd h (Nat.not_lt_zero _)⟩
  case round =>
    obtain ⟨k, hk, rfl, HG, HN⟩ := hrel
    by_cases hlt : k < 10
    · go_wp2_with fail
      refine (itoa_any k _ (by omega)).mono ?_
      rintro e w1 ⟨s, rfl, -, -, hone, hg1⟩
      obtain ⟨h1, h2⟩ := hone hlt
      have HG1 : Hid (Grown wr w1) := hg1
      clear hg1 hone
      have hs0 : 0 < s.size := by omega
      by_cases hc : c = 48 + (k : Int)
      · have he : ((s[0].toNat : Int) == c) = true := by rw [h2, hc]; exact beq_self_eq_true _
        have HC : Hid (48 ≤ c ∧ c ≤ 57) := ⟨by omega, by omega⟩
        clear hc h2
        go_wp2
        go_ret
        exact ⟨ret_b (decide_eq_true HC.out).symm, grown_trans HG.out HG1.out⟩
      · have he : ((s[0].toNat : Int) == c) = false := by rw [h2]; exact beq_eq_false_iff_ne.2 (fun h => hc h.symm)
        have HC : Hid (c ≠ 48 + (k : Int)) := hc
        clear hc h2
        go_wp2
        go_roundw
        case rel => exact ⟨k + 1, by omega, by go_num, grown_trans HG.out HG1.out, fun j hj => by
          rcases Nat.lt_or_ge j k with h | h
          · exact HN.out j h
          · have : j = k := by omega
            subst this; exact HC.out⟩
        case measure => simp [intOf]; omega
    · have HC : Hid (¬ (48 ≤ c ∧ c ≤ 57)) := fun h => HN.out (c - 48).toNat (by omega) (by omega)
      go_wp2
      go_ret
      exact ⟨ret_b (decide_eq_false HC.out).symm, HG.out⟩

end Go.Proofs.Qxb6619686a
