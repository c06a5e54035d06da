/-
  THE WALK of FnHex4IsTheNumberItsDigitsWrite (5) past its first tests, and its plain law.
-/
import Derived.Test.Qxb6619679aCopy
import Derived.Deep.QuietTactic
import Derived.BigQuiet
namespace Go.Proofs.Qxb6619679a
open Go.ChangeShapes Go.WideShapes Go.ChangeAt Go.RowKit

/-- The digit that writes d, in lower case. -/
def hexc (d : Int) : Int := if d < 10 then d + 48 else d + 87

theorem lower_any (c : Int) (w : World) (h : IsHex c) :
    Calls Try.prog 17 #[.int .u8 c] w fun e w' => e = .returned (.int .u8 (hexc (hd c))) ∧ w' = w := by
  unfold IsHex at h
  rcases h with h | h | h
  · have e : hexc (hd c) = c := by unfold hd; rw [if_pos h]; unfold hexc; rw [if_pos (by omega)]; omega
    rw [e]
    go_enter Try.func17, Try.ntmps17
    go_wp2
    go_ret
    exact ⟨rfl, rfl⟩
  · have e : hexc (hd c) = c := by unfold hd; rw [if_neg (by omega), if_pos h]; unfold hexc; rw [if_neg (by omega)]; omega
    rw [e]
    go_enter Try.func17, Try.ntmps17
    go_wp2
    all_goals go_ret
    all_goals exact ⟨rfl, rfl⟩
  · have e : hexc (hd c) = c + 32 := by unfold hd; rw [if_neg (by omega), if_neg (by omega)]; unfold hexc; rw [if_neg (by omega)]; omega
    rw [e]
    go_enter Try.func17, Try.ntmps17
    go_wp2
    go_ret
    exact ⟨rfl, rfl⟩

/-- The same, inside a region that draws its order. -/
theorem lower_q (c : Int) (W : World) (m a : Nat) (h : IsHex c) :
    Calls Try.prog 17 #[.int .u8 c] (W.drewN (m + a)) fun e w'' => e = .returned (.int .u8 (hexc (hd c))) ∧ ∃ n, w'' = W.drewN (m + n) :=
  (lower_any c _ h).mono fun _ _ ⟨he, hw⟩ => ⟨he, a, hw⟩

theorem bytes_yes (a : Option Addr) (len cap : Nat) (w : World) (h : len ≤ 1048576) :
    Calls Try.prog 14 #[.slice a len cap] w fun e w' => e = .returned (.bool true) ∧ w = w' := by
  go_enter Try.func14, Try.ntmps14
  go_wp2
  go_ret
  exact ⟨rfl, rfl⟩

theorem V4_bd (z : Nat → Int) (hh : ∀ i, i < 4 → IsHex (z i)) : 0 ≤ V z 4 ∧ V z 4 ≤ 65535 := by
  have h0 := V_bd z hh 3 (by omega)
  have h1 := hd_bd (hh 3 (by omega))
  simp only [V] at *
  omega

theorem V4_eq (z : Nat → Int) : V z 4 = 4096 * hd (z 0) + 256 * hd (z 1) + 16 * hd (z 2) + hd (z 3) := by
  simp only [V]; omega

/-- The four hexadecimal digits of a number are those that it was read from. -/
theorem digit0 (z : Nat → Int) (hh : ∀ i, i < 4 → IsHex (z i)) (r : Int) (hr : V z 4 = r) : bits .and .i32 (r / 4096) 15 = hd (z 0) := by
  have b := V4_bd z hh
  have e := V4_eq z
  have h0 := hd_bd (hh 0 (by omega))
  have h1 := hd_bd (hh 1 (by omega))
  have h2 := hd_bd (hh 2 (by omega))
  have h3 := hd_bd (hh 3 (by omega))
  rw [i32_and15 _ (by omega) (by omega)]; omega
theorem digit1 (z : Nat → Int) (hh : ∀ i, i < 4 → IsHex (z i)) (r : Int) (hr : V z 4 = r) : bits .and .i32 (r / 256) 15 = hd (z 1) := by
  have b := V4_bd z hh
  have e := V4_eq z
  have h0 := hd_bd (hh 0 (by omega))
  have h1 := hd_bd (hh 1 (by omega))
  have h2 := hd_bd (hh 2 (by omega))
  have h3 := hd_bd (hh 3 (by omega))
  rw [i32_and15 _ (by omega) (by omega)]; omega
theorem digit2 (z : Nat → Int) (hh : ∀ i, i < 4 → IsHex (z i)) (r : Int) (hr : V z 4 = r) : bits .and .i32 (r / 16) 15 = hd (z 2) := by
  have b := V4_bd z hh
  have e := V4_eq z
  have h0 := hd_bd (hh 0 (by omega))
  have h1 := hd_bd (hh 1 (by omega))
  have h2 := hd_bd (hh 2 (by omega))
  have h3 := hd_bd (hh 3 (by omega))
  rw [i32_and15 _ (by omega) (by omega)]; omega
theorem digit3 (z : Nat → Int) (hh : ∀ i, i < 4 → IsHex (z i)) (r : Int) (hr : V z 4 = r) : bits .and .i32 r 15 = hd (z 3) := by
  have b := V4_bd z hh
  have e := V4_eq z
  have h0 := hd_bd (hh 0 (by omega))
  have h1 := hd_bd (hh 1 (by omega))
  have h2 := hd_bd (hh 2 (by omega))
  have h3 := hd_bd (hh 3 (by omega))
  rw [i32_and15 _ (by omega) (by omega)]; omega

/-- 'zzHexDigits[d]'. -/
theorem hexdig (d : Int) (h0 : 0 ≤ d) (h1 : d ≤ 15) (w : World) :
    (Instr.index 9 (.string ⟨#[48, 49, 50, 51, 52, 53, 54, 55, 56, 57, 97, 98, 99, 100, 101, 102]⟩) (.int .i32 d)).run Try.prog w = .ok (.int .u8 (hexc d)) w := by
  have e : d = 0 ∨ d = 1 ∨ d = 2 ∨ d = 3 ∨ d = 4 ∨ d = 5 ∨ d = 6 ∨ d = 7 ∨ d = 8 ∨ d = 9 ∨ d = 10 ∨ d = 11 ∨ d = 12 ∨ d = 13 ∨ d = 14 ∨ d = 15 := by omega
  rcases e with rfl | rfl | rfl | rfl | rfl | rfl | rfl | rfl | rfl | rfl | rfl | rfl | rfl | rfl | rfl | rfl <;> (rw [run_index_string w 9 _ _ _ Try.underlying9]; rfl)

set_option maxRecDepth 100000 in
set_option maxHeartbeats 1000000 in
theorem number_walk (x : Addr) (len cap : Nat) (zs : List Int) (w : World) (h4 : 4 ≤ len) (hlen : len ≤ 1048576)
    (hzl : len ≤ zs.length) (hcell : ∀ i, i < zs.length → w.cell? (x.add i) = some (.int .u8 (zs.getD i 0))) :
    Calls Try.prog 5 #[.slice (some x) len cap] w fun e w' => e = .returned (.bool true) ∧ Below w.heap.size w w' := by
  have hmk := make_row len hlen
  obtain ⟨W2, z, hcp, hsrc, hbel, hsz⟩ := copied4 x len cap zs w h4 hzl hcell
  clear hcell hzl
  go_enter Try.func5, Try.ntmps5
  go_wp2_with (go_at_call 14; refine (bytes_yes _ _ _ _ hlen).mono ?_; rintro e w' ⟨rfl, rfl⟩)
  clear hcp hmk
  go_loop [4] (fun i => ∃ k : Nat, k ≤ 4 ∧ i = .int .i64 k ∧ Hid (∀ j, j < k → IsHex (z j))) (fun i => 4 - (intOf i).toNat)
  case atStart => exact ⟨0, Nat.zero_le _, rfl, fun j h => absurd h (Nat.not_lt_zero _)⟩
  case round =>
    obtain ⟨k, hk, rfl, Hhex⟩ := hrel
    by_cases hlt : k < 4
    · have hck := hsrc k hlt
      by_cases hx : IsHex (z k)
      · have HX : Hid (IsHex (z k)) := hx
        clear hx
        go_wp2_with (go_at_call 15; refine (isHex_yes _ _ HX.out).mono ?_; rintro e w' ⟨rfl, rfl⟩)
        go_round
        case rel => exact ⟨k + 1, by omega, by go_num, fun j hj => by
          rcases Nat.lt_or_ge j k with h | h
          · exact Hhex.out j h
          · have : j = k := by omega
            subst this; exact HX.out⟩
        case measure => simp [intOf]; omega
      · have HX : Hid (¬ IsHex (z k)) := hx
        clear hx
        go_wp2_with (go_at_call 15; refine (isHex_no _ _ HX.out).mono ?_; rintro e w' ⟨rfl, rfl⟩)
        go_ret
        exact ⟨rfl, hbel⟩
    · have hk4 : k = 4 := by omega
      subst hk4
      have HS : Hid (∀ i, i < 4 → W2.cell? ⟨w.heap.size, i, none⟩ = some (.int .u8 (z i))) := hsrc
      clear hsrc
      have hvb := V4_bd z Hhex.out
      go_wp2_with (go_at_call 16; refine (zzhex4_any _ _ _ z _ h4 (Nat.le_refl _) hlen HS.out Hhex.out).mono ?_; rintro e w' ⟨rfl, rfl⟩)
      generalize hr : V z 4 = r at *
      have HR : Hid (V z 4 = r) := hr
      clear hr
      go_loopw [6] (fun i wr => ∃ k m : Nat, k ≤ 4 ∧ i = .int .i64 k ∧ wr = W2.drewN m) (fun i _ => 4 - (intOf i).toNat)
      case atStart => exact ⟨0, 0, Nat.zero_le _, rfl, rfl⟩
      case round =>
        obtain ⟨k, m, hk2, rfl, rfl⟩ := hrel
        by_cases hlt2 : k < 4
        · have e : k = 0 ∨ k = 1 ∨ k = 2 ∨ k = 3 := by omega
          rcases e with rfl | rfl | rfl | rfl
          · have hs1 := HS.out 0 (by omega)
            have hb1 : (0 : Int) < (len : Int) := by omega
            have hb2 : 0 < len := by omega
            have hbits := digit0 z Hhex.out r HR.out
            have hdb := hd_bd (Hhex.out 0 (by omega))
            have hix := hexdig (hd (z 0)) hdb.1 hdb.2
            go_wp2_with fail
            go_quiet ((go_at_call 17; exact lower_q _ _ _ _ (Hhex.out 0 (by omega))))
            go_wp2
            go_roundw
            case rel => exact ⟨1, _, by omega, by go_num, rfl⟩
            case measure => simp [intOf]
          · have hs1 := HS.out 1 (by omega)
            have hb1 : (1 : Int) < (len : Int) := by omega
            have hb2 : 1 < len := by omega
            have hbits := digit1 z Hhex.out r HR.out
            have hdb := hd_bd (Hhex.out 1 (by omega))
            have hix := hexdig (hd (z 1)) hdb.1 hdb.2
            go_wp2_with fail
            go_quiet ((go_at_call 17; exact lower_q _ _ _ _ (Hhex.out 1 (by omega))))
            go_wp2
            go_roundw
            case rel => exact ⟨2, _, by omega, by go_num, rfl⟩
            case measure => simp [intOf]
          · have hs1 := HS.out 2 (by omega)
            have hb1 : (2 : Int) < (len : Int) := by omega
            have hb2 : 2 < len := by omega
            have hbits := digit2 z Hhex.out r HR.out
            have hdb := hd_bd (Hhex.out 2 (by omega))
            have hix := hexdig (hd (z 2)) hdb.1 hdb.2
            go_wp2_with fail
            go_quiet ((go_at_call 17; exact lower_q _ _ _ _ (Hhex.out 2 (by omega))))
            go_wp2
            go_roundw
            case rel => exact ⟨3, _, by omega, by go_num, rfl⟩
            case measure => simp [intOf]
          · have hs1 := HS.out 3 (by omega)
            have hb1 : (3 : Int) < (len : Int) := by omega
            have hb2 : 3 < len := by omega
            have hbits := digit3 z Hhex.out r HR.out
            have hdb := hd_bd (Hhex.out 3 (by omega))
            have hix := hexdig (hd (z 3)) hdb.1 hdb.2
            go_wp2_with fail
            go_quiet ((go_at_call 17; exact lower_q _ _ _ _ (Hhex.out 3 (by omega))))
            go_wp2
            go_roundw
            case rel => exact ⟨4, _, by omega, by go_num, rfl⟩
            case measure => simp [intOf]
        · have hk4 : k = 4 := by omega
          subst hk4
          go_wp2
          go_ret
          exact ⟨rfl, below_drewN hbel _⟩

end Go.Proofs.Qxb6619679a
