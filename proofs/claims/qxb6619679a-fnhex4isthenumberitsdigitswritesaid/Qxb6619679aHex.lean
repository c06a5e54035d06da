/-
  THE WALKS of hex4 (21) and ZZHex4 (16), of zzIsHex (15) and of zzLowerHex (17).
-/
import Derived.Test.Qxb6619679aRows
import Derived.WalkKit
import Derived.ProofKit
import Derived.WalkSpells
import Derived.WalkLawsBesides
import Derived.Below
import Derived.Deep.Light
import Derived.Laws.BitsAllLaws
namespace Go.Proofs.Qxb6619679a
open Go.ChangeShapes Go.WideShapes Go.ChangeAt Go.RowKit

theorem ret_i {k : IntKind} {a b : Int} (h : a = b) : Ending.returned (.int k a) = .returned (.int k b) := by rw [h]

theorem ret_b {a b : Bool} (h : a = b) : Ending.returned (.bool a) = .returned (.bool b) := by rw [h]

/-- A hexadecimal digit, of either case. -/
def IsHex (c : Int) : Prop := (48 ≤ c ∧ c ≤ 57) ∨ (97 ≤ c ∧ c ≤ 102) ∨ (65 ≤ c ∧ c ≤ 70)
/-- Its value. -/
def hd (c : Int) : Int := if 48 ≤ c ∧ c ≤ 57 then c - 48 else if 97 ≤ c ∧ c ≤ 102 then c - 87 else c - 55
/-- The value of the first k digits. -/
def V (z : Nat → Int) : Nat → Int
  | 0 => 0
  | k + 1 => 16 * V z k + hd (z k)

theorem hd_bd {c : Int} (h : IsHex c) : 0 ≤ hd c ∧ hd c ≤ 15 := by
  unfold IsHex at h; unfold hd; split
  · omega
  · split <;> omega

theorem V_bd (z : Nat → Int) (hh : ∀ i, i < 4 → IsHex (z i)) (k : Nat) (hk : k < 4) : 0 ≤ V z k ∧ V z k ≤ 4095 := by
  have h0 := hd_bd (hh 0 (by omega))
  have h1 := hd_bd (hh 1 (by omega))
  have h2 := hd_bd (hh 2 (by omega))
  have e : k = 0 ∨ k = 1 ∨ k = 2 ∨ k = 3 := by omega
  rcases e with rfl | rfl | rfl | rfl <;> simp only [V] <;> omega

theorem ofInt_i32 (a : Nat) (ha : a < 4294967296) : (BitVec.ofInt 32 (a : Int)).toNat = a := by
  rw [BitVec.ofInt_natCast, BitVec.toNat_ofNat]; exact Nat.mod_eq_of_lt (by omega)

/-- 'r<<4 | c' on a rune: c goes into the four places that the shift has made. -/
theorem i32_or16 (v h : Int) (h0 : 0 ≤ v) (h1 : v ≤ 4095) (h2 : 0 ≤ h) (h3 : h ≤ 15) : bits .or .i32 (v * 16) h = 16 * v + h := by
  obtain ⟨A, rfl⟩ := Int.eq_ofNat_of_zero_le h0
  obtain ⟨B, rfl⟩ := Int.eq_ofNat_of_zero_le h2
  have e2 : ((A : Int) * 16) = ((A * 16 : Nat) : Int) := by omega
  rw [e2]
  have hj : A * 16 ||| B = A * 16 + B := nat_join 4 (A * 16) B (by omega) (by omega)
  show IntKind.i32.wrap ((BitVec.ofInt 32 ((A * 16 : Nat) : Int) ||| BitVec.ofInt 32 (B : Int)).toNat : Int) = _
  rw [BitVec.toNat_or, ofInt_i32 _ (by omega), ofInt_i32 _ (by omega), hj, IntKind.wrap_i32]
  omega

/-- 'x & 15' on a rune. -/
theorem i32_and15 (x : Int) (h0 : 0 ≤ x) (h1 : x ≤ 65535) : bits .and .i32 x 15 = x % 16 := by
  obtain ⟨A, rfl⟩ := Int.eq_ofNat_of_zero_le h0
  show IntKind.i32.wrap ((BitVec.ofInt 32 (A : Int) &&& BitVec.ofInt 32 ((15 : Nat) : Int)).toNat : Int) = _
  rw [BitVec.toNat_and, ofInt_i32 _ (by omega), ofInt_i32 _ (by omega), nat_mask4, IntKind.wrap_i32]
  omega

theorem V_step (z : Nat → Int) (k : Nat) (v c d : Int) (hV : V z k = v) (hz : z k = c) (h : hd c = d) (hv : 0 ≤ v ∧ v ≤ 4095) (hd0 : 0 ≤ d) (hd1 : d ≤ 15) :
    bits .or .i32 (v * 16) d = V z (k + 1) := by
  rw [i32_or16 v d hv.1 hv.2 hd0 hd1]; simp only [V]; rw [hV, hz, h]

set_option maxHeartbeats 400000 in
theorem hex4_any (g len cap : Nat) (z : Nat → Int) (w : World) (hlen : 4 ≤ len) (hlc : len ≤ cap) (hcap : cap ≤ 1048576)
    (hc : ∀ i, i < 4 → w.cell? ⟨g, i, none⟩ = some (.int .u8 (z i))) (hh : ∀ i, i < 4 → IsHex (z i)) :
    Calls Try.prog 21 #[.slice (some ⟨g, 0, none⟩) len cap] w fun e w' => e = .returned (.int .i32 (V z 4)) ∧ w = w' := by
  go_enter Try.func21, Try.ntmps21
  go_wp2
  go_loop [3, 9] (fun r i => ∃ k : Nat, k ≤ 4 ∧ i = .int .i64 k ∧ r = .int .i32 (V z k)) (fun _ i => 4 - (intOf i).toNat)
  case atStart => exact ⟨0, Nat.zero_le _, rfl, rfl⟩
  case round =>
    obtain ⟨k, hk, rfl, rfl⟩ := hrel
    by_cases hlt : k < 4
    · have hck := hc k hlt
      have hhk := hh k hlt
      have hvb := V_bd z hh k hlt
      clear hc hh
      unfold IsHex at hhk
      generalize hV : V z k = v at *
      generalize hz : z k = c at *
      have HV : Hid (V z k = v) := hV
      have HZ : Hid (z k = c) := hz
      clear hV hz
      rcases hhk with h | h | h
      · have H : Hid (hd c = c - 48) := by show _ = _; unfold hd; rw [if_pos (by omega)]
        go_wp2
        go_round
        case rel => exact ⟨k + 1, by omega, by go_num, congrArg (Value.int IntKind.i32) (V_step z k v c _ HV.out HZ.out H.out hvb (by omega) (by omega))⟩
        case measure => simp [intOf]; omega
      · have H : Hid (hd c = c - 87) := by show _ = _; unfold hd; rw [if_neg (by omega), if_pos (by omega)]
        go_wp2
        go_round
        case rel => exact ⟨k + 1, by omega, by go_num, congrArg (Value.int IntKind.i32) (V_step z k v c _ HV.out HZ.out H.out hvb (by omega) (by omega))⟩
        case measure => simp [intOf]; omega
      · have H : Hid (hd c = c - 55) := by show _ = _; unfold hd; rw [if_neg (by omega), if_neg (by omega)]
        go_wp2
        go_round
        case rel => exact ⟨k + 1, by omega, by go_num, congrArg (Value.int IntKind.i32) (V_step z k v c _ HV.out HZ.out H.out hvb (by omega) (by omega))⟩
        case measure => simp [intOf]; omega
    · have hk4 : k = 4 := by omega
      subst hk4
      go_wp2
      go_ret
      exact ⟨rfl, rfl⟩

theorem zzhex4_any (g len cap : Nat) (z : Nat → Int) (w : World) (hlen : 4 ≤ len) (hlc : len ≤ cap) (hcap : cap ≤ 1048576)
    (hc : ∀ i, i < 4 → w.cell? ⟨g, i, none⟩ = some (.int .u8 (z i))) (hh : ∀ i, i < 4 → IsHex (z i)) :
    Calls Try.prog 16 #[.slice (some ⟨g, 0, none⟩) len cap] w fun e w' => e = .returned (.int .i32 (V z 4)) ∧ w = w' := by
  have H := hex4_any g len cap z w hlen hlc hcap hc hh
  clear hc hh
  go_enter Try.func16, Try.ntmps16
  go_wp2_with (go_at_call 21; refine H.mono ?_; rintro e w' ⟨rfl, rfl⟩)
  go_ret
  exact ⟨rfl, rfl⟩

theorem isHex_yes (c : Int) (w : World) (h : IsHex c) :
    Calls Try.prog 15 #[.int .u8 c] w fun e w' => e = .returned (.bool true) ∧ w = w' := by
  unfold IsHex at h
  rcases h with h | h | h
  all_goals
    go_enter Try.func15, Try.ntmps15
    go_wp2
    go_ret
    exact ⟨rfl, rfl⟩

theorem isHex_no (c : Int) (w : World) (h : ¬ IsHex c) :
    Calls Try.prog 15 #[.int .u8 c] w fun e w' => e = .returned (.bool false) ∧ w = w' := by
  have h' : c < 48 ∨ (57 < c ∧ c < 65) ∨ (70 < c ∧ c < 97) ∨ 102 < c := by unfold IsHex at h; omega
  clear h
  rcases h' with h | h | h | h
  all_goals
    go_enter Try.func15, Try.ntmps15
    go_wp2
    go_ret
    refine ⟨?_, rfl⟩
    first | rfl | (refine ret_b ?_; simp; omega)

end Go.Proofs.Qxb6619679a
