/-
  THE WALK of FnFitsKindTakesNullAndItsOwnJSONType (4): two loops of 256 rounds over the contracts of Qxb6619679aFits.
-/
import Derived.Test.Qxb6619679aFits
namespace Go.Proofs.Qxb6619679a
open Go.ChangeShapes Go.WideShapes Go.ChangeAt Go.RowKit

set_option maxRecDepth 100000 in
set_option maxHeartbeats 1000000 in
theorem fitsLaw_kind (a0 a1 : Int) (w : World) (hk0 : (kt a0 == 0) = false) :
    Calls Try.prog 4 #[.int .u8 a0, .int .u8 a1] w fun e w' => e = .returned (.bool true) ∧ Grown w w' := by
  have hkn : kt a0 ≠ 0 := beq_eq_false_iff_ne.1 hk0
  have hsame : ∀ d : Int, (st d == st a1) = true → (ft a0 d == ft a0 a1) = true := fun d h => by rw [ft_same a0 a1 d hkn h]; exact beq_self_eq_true _
  have Hgot : Hid (ft a0 a1 = (st a1 == 0 || st a1 == kt a0)) := ft_eq a0 a1 hkn
  have Hhome : Hid (∃ j : Nat, j < 7 ∧ kt j ≠ 0 ∧ ft j a1 = true) := home a1
  clear hkn
  go_enter Try.func4, Try.ntmps4
  go_wp2_with (first | (go_at_call 11; refine (kind_any _ _).mono ?_; rintro e w' ⟨rfl, rfl⟩) | (go_at_call 13; refine (start_any _ _).mono ?_; rintro e w' ⟨rfl, rfl⟩) | (go_at_call 12; refine (fits_any _ _ _).mono ?_; rintro e w' ⟨rfl, rfl⟩))
  go_loop [8] (fun i => ∃ k : Nat, k ≤ 256 ∧ i = .int .i64 k) (fun i => 256 - (intOf i).toNat)
  case atStart => exact ⟨0, Nat.zero_le _, rfl⟩
  case round =>
    obtain ⟨k, hk, rfl⟩ := hrel
    by_cases hlt : k < 256
    · by_cases hs : (st (k : Int) == st a1) = true
      · have hd := hsame _ hs
        clear hsame
        go_wp2_with (first | (go_at_call 11; refine (kind_any _ _).mono ?_; rintro e w' ⟨rfl, rfl⟩) | (go_at_call 13; refine (start_any _ _).mono ?_; rintro e w' ⟨rfl, rfl⟩) | (go_at_call 12; refine (fits_any _ _ _).mono ?_; rintro e w' ⟨rfl, rfl⟩))
        go_round
        case rel => exact ⟨k + 1, by omega, by go_num⟩
        case measure => simp [intOf]; omega
      · have hs' : (st (k : Int) == st a1) = false := by simpa using hs
        clear hsame hs
        go_wp2_with (first | (go_at_call 11; refine (kind_any _ _).mono ?_; rintro e w' ⟨rfl, rfl⟩) | (go_at_call 13; refine (start_any _ _).mono ?_; rintro e w' ⟨rfl, rfl⟩) | (go_at_call 12; refine (fits_any _ _ _).mono ?_; rintro e w' ⟨rfl, rfl⟩))
        go_round
        case rel => exact ⟨k + 1, by omega, by go_num⟩
        case measure => simp [intOf]; omega
    · clear hsame
      go_wp2_with (first | (go_at_call 11; refine (kind_any _ _).mono ?_; rintro e w' ⟨rfl, rfl⟩) | (go_at_call 13; refine (start_any _ _).mono ?_; rintro e w' ⟨rfl, rfl⟩) | (go_at_call 12; refine (fits_any _ _ _).mono ?_; rintro e w' ⟨rfl, rfl⟩))
      go_loop [9, 10, 11] (fun h v i => ∃ k n : Nat, k ≤ 256 ∧ n ≤ k ∧ i = .int .i64 k ∧ h = .int .i64 n ∧ v = .int .i64 n ∧ Hid (∀ j : Nat, j < k → kt j ≠ 0 → ft j a1 = true → 1 ≤ n)) (fun _ _ i => 256 - (intOf i).toNat)
      case atStart => exact ⟨0, 0, Nat.zero_le _, Nat.zero_le _, rfl, rfl, rfl, fun j h => absurd h (Nat.not_lt_zero _)⟩
      case round =>
        obtain ⟨k2, n, hk2, hn, rfl, rfl, rfl, hall⟩ := hrel
        by_cases hlt2 : k2 < 256
        · by_cases hz : (kt (k2 : Int) == 0) = true
          · go_wp2_with (first | (go_at_call 11; refine (kind_any _ _).mono ?_; rintro e w' ⟨rfl, rfl⟩) | (go_at_call 13; refine (start_any _ _).mono ?_; rintro e w' ⟨rfl, rfl⟩) | (go_at_call 12; refine (fits_any _ _ _).mono ?_; rintro e w' ⟨rfl, rfl⟩))
            go_round
            case rel => exact ⟨k2 + 1, n, by omega, by omega, by go_num, rfl, rfl, fun j hj h1 h2 => by
              rcases Nat.lt_or_ge j k2 with h | h
              · exact hall.out j h h1 h2
              · have : j = k2 := by omega
                subst this; exact absurd (beq_iff_eq.1 hz) h1⟩
            case measure => simp [intOf]; omega
          · have hz' : (kt (k2 : Int) == 0) = false := by simpa using hz
            have Hf : Hid (ft k2 a1 = (st a1 == 0 || st a1 == kt k2)) := ft_eq k2 a1 (beq_eq_false_iff_ne.1 hz')
            clear hz
            by_cases hst : (st a1 == 0) = true
            · have hf : ft k2 a1 = true := by rw [Hf.out, hst]; rfl
              go_wp2_with (first | (go_at_call 11; refine (kind_any _ _).mono ?_; rintro e w' ⟨rfl, rfl⟩) | (go_at_call 13; refine (start_any _ _).mono ?_; rintro e w' ⟨rfl, rfl⟩) | (go_at_call 12; refine (fits_any _ _ _).mono ?_; rintro e w' ⟨rfl, rfl⟩))
              go_round
              case rel => exact ⟨k2 + 1, n + 1, by omega, by omega, by go_num, by go_num, by go_num, fun _ _ _ _ => by omega⟩
              case measure => simp [intOf]; omega
            · have hst' : (st a1 == 0) = false := by simpa using hst
              clear hst
              by_cases hkt : (kt (k2 : Int) == st a1) = true
              · have hf : ft k2 a1 = true := by rw [Hf.out, hst', beq_iff_eq.1 hkt, beq_self_eq_true]; rfl
                go_wp2_with (first | (go_at_call 11; refine (kind_any _ _).mono ?_; rintro e w' ⟨rfl, rfl⟩) | (go_at_call 13; refine (start_any _ _).mono ?_; rintro e w' ⟨rfl, rfl⟩) | (go_at_call 12; refine (fits_any _ _ _).mono ?_; rintro e w' ⟨rfl, rfl⟩))
                go_round
                case rel => exact ⟨k2 + 1, n + 1, by omega, by omega, by go_num, by go_num, by go_num, fun _ _ _ _ => by omega⟩
                case measure => simp [intOf]; omega
              · have hkt' : (kt (k2 : Int) == st a1) = false := by simpa using hkt
                have hf : ft k2 a1 = false := by rw [Hf.out, hst', Bool.false_or, beq_eq_false_iff_ne]; exact fun h => (beq_eq_false_iff_ne.1 hkt') h.symm
                clear hkt
                go_wp2_with (first | (go_at_call 11; refine (kind_any _ _).mono ?_; rintro e w' ⟨rfl, rfl⟩) | (go_at_call 13; refine (start_any _ _).mono ?_; rintro e w' ⟨rfl, rfl⟩) | (go_at_call 12; refine (fits_any _ _ _).mono ?_; rintro e w' ⟨rfl, rfl⟩))
                go_round
                case rel => exact ⟨k2 + 1, n, by omega, by omega, by go_num, rfl, rfl, fun j hj h1 h2 => by
                  rcases Nat.lt_or_ge j k2 with h | h
                  · exact hall.out j h h1 h2
                  · have : j = k2 := by omega
                    subst this; rw [hf] at h2; cases h2⟩
                case measure => simp [intOf]; omega
        · have h1n : 1 ≤ n := by
            obtain ⟨j, hj, h1, h2⟩ := Hhome.out
            exact hall.out j (by omega) h1 h2
          clear hall
          by_cases hst : (st a1 == 0) = true
          · have hg : ft a0 a1 = true := by rw [Hgot.out, hst]; rfl
            go_wp2_with (first | (go_at_call 11; refine (kind_any _ _).mono ?_; rintro e w' ⟨rfl, rfl⟩) | (go_at_call 13; refine (start_any _ _).mono ?_; rintro e w' ⟨rfl, rfl⟩) | (go_at_call 12; refine (fits_any _ _ _).mono ?_; rintro e w' ⟨rfl, rfl⟩))
            go_ret
            exact ⟨ret_bool (decide_eq_true (by omega)), Grown.refl _⟩
          · have hst' : (st a1 == 0) = false := by simpa using hst
            clear hst
            by_cases hkt : (st a1 == kt a0) = true
            · have hg : ft a0 a1 = true := by rw [Hgot.out, hst', hkt]; rfl
              go_wp2_with (first | (go_at_call 11; refine (kind_any _ _).mono ?_; rintro e w' ⟨rfl, rfl⟩) | (go_at_call 13; refine (start_any _ _).mono ?_; rintro e w' ⟨rfl, rfl⟩) | (go_at_call 12; refine (fits_any _ _ _).mono ?_; rintro e w' ⟨rfl, rfl⟩))
              go_ret
              exact ⟨ret_bool (decide_eq_true (by omega)), Grown.refl _⟩
            · have hkt' : (st a1 == kt a0) = false := by simpa using hkt
              have hg : ft a0 a1 = false := by rw [Hgot.out, hst', hkt']; rfl
              clear hkt
              go_wp2_with (first | (go_at_call 11; refine (kind_any _ _).mono ?_; rintro e w' ⟨rfl, rfl⟩) | (go_at_call 13; refine (start_any _ _).mono ?_; rintro e w' ⟨rfl, rfl⟩) | (go_at_call 12; refine (fits_any _ _ _).mono ?_; rintro e w' ⟨rfl, rfl⟩))
              go_ret
              exact ⟨ret_bool (decide_eq_true (by omega)), Grown.refl _⟩

theorem fitsLaw (a0 a1 : Int) (w : World) :
    Calls Try.prog 4 #[.int .u8 a0, .int .u8 a1] w fun e w' => e = .returned (.bool true) ∧ Grown w w' := by
  by_cases hk : (kt a0 == 0) = true
  · go_enter Try.func4, Try.ntmps4
    go_wp2_with (first | (go_at_call 11; refine (kind_any _ _).mono ?_; rintro e w' ⟨rfl, rfl⟩) | (go_at_call 13; refine (start_any _ _).mono ?_; rintro e w' ⟨rfl, rfl⟩) | (go_at_call 12; refine (fits_any _ _ _).mono ?_; rintro e w' ⟨rfl, rfl⟩))
    go_ret
    exact ⟨rfl, Grown.refl _⟩
  · exact fitsLaw_kind a0 a1 w (by simpa using hk)

end Go.Proofs.Qxb6619679a
