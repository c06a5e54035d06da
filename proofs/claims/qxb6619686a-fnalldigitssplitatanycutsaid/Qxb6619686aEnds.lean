/-
  THE WALK of FnAllDigitsSplitAtAnyCut (4), k at an end of s, or s empty: a theorem a way.
-/
import Derived.Test.Qxb6619686aOne
namespace Go.Proofs.Qxb6619686a
open Go.ChangeShapes Go.WideShapes Go.ChangeAt Go.RowKit

set_option maxRecDepth 100000 in
set_option maxHeartbeats 1000000 in
/-- k = 0, s not empty -/
theorem at_head_true (s : ByteArray) (kN cN : Nat) (w : World) (hs : s.size ≤ 1048576) (hk : kN ≤ s.size) (hc : cN ≤ 255)
    (hem : s.toList.isEmpty = false) (hk0 : ((kN : Int) == 0) = true) (hkl : ((kN : Int) == (s.size : Int)) = false)
    (hW : ad s = ad (s.extract kN s.size)) (hI : ad (s.extract 0 kN ++ one cN ++ s.extract kN s.size) = ad (s.extract kN s.size)) (hO : ad (one cN) = true) (hD : dN cN = true) :
    Calls Try.prog 4 #[.string s, .int .i64 kN, .int .u8 cN] w fun e w' => e = .returned (.bool true) ∧ Grown w w' := by
  have hs2 : s.size ≤ 2097152 := by omega
  have hsl : (s.extract 0 kN).size ≤ 2097152 := by rw [ByteArray.size_extract]; omega
  have hsr : (s.extract kN s.size).size ≤ 2097152 := by rw [ByteArray.size_extract]; omega
  have hso : (one cN).size ≤ 2097152 := by rw [one_size]; omega
  have HS : Hid ((s.extract 0 kN ++ one cN ++ s.extract kN s.size).size ≤ 2097152) := ins_size s (one cN) kN hs (by rw [one_size]; omega)
  have hcv := one_str cN hc
  go_enter Try.func4, Try.ntmps4
  go_wp2_with (first | (go_at_call 8; go_in) | (go_at_call 7; refine (zzdigits_any _ _ (by assumption)).mono ?_; rintro e w' ⟨rfl, rfl⟩) | (go_at_call 9; refine (numeral_N _ _).mono ?_; rintro e w1 ⟨rfl, hg⟩))
  have hsz1 : (s.extract 0 kN).size = kN := by rw [ByteArray.size_extract]; omega
  have hsz2 : (one cN).size = 1 := one_size cN
  clear hcv hsl hsr hso hs2
  go_quiet ((go_at_call 7; exact zzdigits_q _ _ _ HS.out))
  go_wp2
  go_ret
  exact ⟨rfl, grown_drewN (grown_trans ((Grown.refl _).alloc _ _) hg) _⟩

set_option maxRecDepth 100000 in
set_option maxHeartbeats 1000000 in
/-- k = len(s), s not empty, accepted -/
theorem at_end_yes_true (s : ByteArray) (kN cN : Nat) (w : World) (hs : s.size ≤ 1048576) (hk : kN ≤ s.size) (hc : cN ≤ 255)
    (hem : s.toList.isEmpty = false) (hk0 : ((kN : Int) == 0) = false) (hkl : ((kN : Int) == (s.size : Int)) = true)
    (hL : ad (s.extract 0 kN) = true) (hW : ad s = true) (hI : ad (s.extract 0 kN ++ one cN ++ s.extract kN s.size) = true) (hO : ad (one cN) = true) (hD : dN cN = true) :
    Calls Try.prog 4 #[.string s, .int .i64 kN, .int .u8 cN] w fun e w' => e = .returned (.bool true) ∧ Grown w w' := by
  have hs2 : s.size ≤ 2097152 := by omega
  have hsl : (s.extract 0 kN).size ≤ 2097152 := by rw [ByteArray.size_extract]; omega
  have hsr : (s.extract kN s.size).size ≤ 2097152 := by rw [ByteArray.size_extract]; omega
  have hso : (one cN).size ≤ 2097152 := by rw [one_size]; omega
  have HS : Hid ((s.extract 0 kN ++ one cN ++ s.extract kN s.size).size ≤ 2097152) := ins_size s (one cN) kN hs (by rw [one_size]; omega)
  have hcv := one_str cN hc
  go_enter Try.func4, Try.ntmps4
  go_wp2_with (first | (go_at_call 8; go_in) | (go_at_call 7; refine (zzdigits_any _ _ (by assumption)).mono ?_; rintro e w' ⟨rfl, rfl⟩) | (go_at_call 9; refine (numeral_N _ _).mono ?_; rintro e w1 ⟨rfl, hg⟩))
  have hsz1 : (s.extract 0 kN).size = kN := by rw [ByteArray.size_extract]; omega
  have hsz2 : (one cN).size = 1 := one_size cN
  clear hcv hsl hsr hso hs2
  go_quiet ((go_at_call 7; exact zzdigits_q _ _ _ HS.out))
  go_wp2
  go_ret
  exact ⟨rfl, grown_drewN (grown_trans ((Grown.refl _).alloc _ _) hg) _⟩

set_option maxRecDepth 100000 in
set_option maxHeartbeats 1000000 in
/-- k = len(s), s not empty, refused -/
theorem at_end_no_true (s : ByteArray) (kN cN : Nat) (w : World) (hs : s.size ≤ 1048576) (hk : kN ≤ s.size) (hc : cN ≤ 255)
    (hem : s.toList.isEmpty = false) (hk0 : ((kN : Int) == 0) = false) (hkl : ((kN : Int) == (s.size : Int)) = true)
    (hL : ad (s.extract 0 kN) = false) (hW : ad s = false) (hI : ad (s.extract 0 kN ++ one cN ++ s.extract kN s.size) = false) (hO : ad (one cN) = true) (hD : dN cN = true) :
    Calls Try.prog 4 #[.string s, .int .i64 kN, .int .u8 cN] w fun e w' => e = .returned (.bool true) ∧ Grown w w' := by
  have hs2 : s.size ≤ 2097152 := by omega
  have hsl : (s.extract 0 kN).size ≤ 2097152 := by rw [ByteArray.size_extract]; omega
  have hsr : (s.extract kN s.size).size ≤ 2097152 := by rw [ByteArray.size_extract]; omega
  have hso : (one cN).size ≤ 2097152 := by rw [one_size]; omega
  have HS : Hid ((s.extract 0 kN ++ one cN ++ s.extract kN s.size).size ≤ 2097152) := ins_size s (one cN) kN hs (by rw [one_size]; omega)
  have hcv := one_str cN hc
  go_enter Try.func4, Try.ntmps4
  go_wp2_with (first | (go_at_call 8; go_in) | (go_at_call 7; refine (zzdigits_any _ _ (by assumption)).mono ?_; rintro e w' ⟨rfl, rfl⟩) | (go_at_call 9; refine (numeral_N _ _).mono ?_; rintro e w1 ⟨rfl, hg⟩))
  have hsz1 : (s.extract 0 kN).size = kN := by rw [ByteArray.size_extract]; omega
  have hsz2 : (one cN).size = 1 := one_size cN
  clear hcv hsl hsr hso hs2
  go_quiet ((go_at_call 7; exact zzdigits_q _ _ _ HS.out))
  go_wp2
  go_ret
  exact ⟨rfl, grown_drewN (grown_trans ((Grown.refl _).alloc _ _) hg) _⟩

set_option maxRecDepth 100000 in
set_option maxHeartbeats 1000000 in
/-- s empty -/
theorem at_nothing_true (s : ByteArray) (kN cN : Nat) (w : World) (hs : s.size ≤ 1048576) (hk : kN ≤ s.size) (hc : cN ≤ 255)
    (hem : s.toList.isEmpty = true) (hk0 : ((kN : Int) == 0) = true) (hkl : ((kN : Int) == (s.size : Int)) = true)
    (hW : ad s = false) (hI : ad (s.extract 0 kN ++ one cN ++ s.extract kN s.size) = true) (hO : ad (one cN) = true) (hD : dN cN = true) :
    Calls Try.prog 4 #[.string s, .int .i64 kN, .int .u8 cN] w fun e w' => e = .returned (.bool true) ∧ Grown w w' := by
  have hs2 : s.size ≤ 2097152 := by omega
  have hsl : (s.extract 0 kN).size ≤ 2097152 := by rw [ByteArray.size_extract]; omega
  have hsr : (s.extract kN s.size).size ≤ 2097152 := by rw [ByteArray.size_extract]; omega
  have hso : (one cN).size ≤ 2097152 := by rw [one_size]; omega
  have HS : Hid ((s.extract 0 kN ++ one cN ++ s.extract kN s.size).size ≤ 2097152) := ins_size s (one cN) kN hs (by rw [one_size]; omega)
  have hcv := one_str cN hc
  go_enter Try.func4, Try.ntmps4
  go_wp2_with (first | (go_at_call 8; go_in) | (go_at_call 7; refine (zzdigits_any _ _ (by assumption)).mono ?_; rintro e w' ⟨rfl, rfl⟩) | (go_at_call 9; refine (numeral_N _ _).mono ?_; rintro e w1 ⟨rfl, hg⟩))
  have hsz1 : (s.extract 0 kN).size = kN := by rw [ByteArray.size_extract]; omega
  have hsz2 : (one cN).size = 1 := one_size cN
  clear hcv hsl hsr hso hs2
  go_quiet ((go_at_call 7; exact zzdigits_q _ _ _ HS.out))
  go_wp2
  go_ret
  exact ⟨rfl, grown_drewN (grown_trans ((Grown.refl _).alloc _ _) hg) _⟩

set_option maxRecDepth 100000 in
set_option maxHeartbeats 1000000 in
/-- k = 0, s not empty -/
theorem at_head_false (s : ByteArray) (kN cN : Nat) (w : World) (hs : s.size ≤ 1048576) (hk : kN ≤ s.size) (hc : cN ≤ 255)
    (hem : s.toList.isEmpty = false) (hk0 : ((kN : Int) == 0) = true) (hkl : ((kN : Int) == (s.size : Int)) = false)
    (hW : ad s = ad (s.extract kN s.size)) (hI : ad (s.extract 0 kN ++ one cN ++ s.extract kN s.size) = false) (hO : ad (one cN) = false) (hD : dN cN = false) :
    Calls Try.prog 4 #[.string s, .int .i64 kN, .int .u8 cN] w fun e w' => e = .returned (.bool true) ∧ Grown w w' := by
  have hs2 : s.size ≤ 2097152 := by omega
  have hsl : (s.extract 0 kN).size ≤ 2097152 := by rw [ByteArray.size_extract]; omega
  have hsr : (s.extract kN s.size).size ≤ 2097152 := by rw [ByteArray.size_extract]; omega
  have hso : (one cN).size ≤ 2097152 := by rw [one_size]; omega
  have HS : Hid ((s.extract 0 kN ++ one cN ++ s.extract kN s.size).size ≤ 2097152) := ins_size s (one cN) kN hs (by rw [one_size]; omega)
  have hcv := one_str cN hc
  go_enter Try.func4, Try.ntmps4
  go_wp2_with (first | (go_at_call 8; go_in) | (go_at_call 7; refine (zzdigits_any _ _ (by assumption)).mono ?_; rintro e w' ⟨rfl, rfl⟩) | (go_at_call 9; refine (numeral_N _ _).mono ?_; rintro e w1 ⟨rfl, hg⟩))
  have hsz1 : (s.extract 0 kN).size = kN := by rw [ByteArray.size_extract]; omega
  have hsz2 : (one cN).size = 1 := one_size cN
  clear hcv hsl hsr hso hs2
  go_quiet ((go_at_call 7; exact zzdigits_q _ _ _ HS.out))
  go_wp2
  go_ret
  exact ⟨rfl, grown_drewN (grown_trans ((Grown.refl _).alloc _ _) hg) _⟩

set_option maxRecDepth 100000 in
set_option maxHeartbeats 1000000 in
/-- k = len(s), s not empty, accepted -/
theorem at_end_yes_false (s : ByteArray) (kN cN : Nat) (w : World) (hs : s.size ≤ 1048576) (hk : kN ≤ s.size) (hc : cN ≤ 255)
    (hem : s.toList.isEmpty = false) (hk0 : ((kN : Int) == 0) = false) (hkl : ((kN : Int) == (s.size : Int)) = true)
    (hL : ad (s.extract 0 kN) = true) (hW : ad s = true) (hI : ad (s.extract 0 kN ++ one cN ++ s.extract kN s.size) = false) (hO : ad (one cN) = false) (hD : dN cN = false) :
    Calls Try.prog 4 #[.string s, .int .i64 kN, .int .u8 cN] w fun e w' => e = .returned (.bool true) ∧ Grown w w' := by
  have hs2 : s.size ≤ 2097152 := by omega
  have hsl : (s.extract 0 kN).size ≤ 2097152 := by rw [ByteArray.size_extract]; omega
  have hsr : (s.extract kN s.size).size ≤ 2097152 := by rw [ByteArray.size_extract]; omega
  have hso : (one cN).size ≤ 2097152 := by rw [one_size]; omega
  have HS : Hid ((s.extract 0 kN ++ one cN ++ s.extract kN s.size).size ≤ 2097152) := ins_size s (one cN) kN hs (by rw [one_size]; omega)
  have hcv := one_str cN hc
  go_enter Try.func4, Try.ntmps4
  go_wp2_with (first | (go_at_call 8; go_in) | (go_at_call 7; refine (zzdigits_any _ _ (by assumption)).mono ?_; rintro e w' ⟨rfl, rfl⟩) | (go_at_call 9; refine (numeral_N _ _).mono ?_; rintro e w1 ⟨rfl, hg⟩))
  have hsz1 : (s.extract 0 kN).size = kN := by rw [ByteArray.size_extract]; omega
  have hsz2 : (one cN).size = 1 := one_size cN
  clear hcv hsl hsr hso hs2
  go_quiet ((go_at_call 7; exact zzdigits_q _ _ _ HS.out))
  go_wp2
  go_ret
  exact ⟨rfl, grown_drewN (grown_trans ((Grown.refl _).alloc _ _) hg) _⟩

set_option maxRecDepth 100000 in
set_option maxHeartbeats 1000000 in
/-- k = len(s), s not empty, refused -/
theorem at_end_no_false (s : ByteArray) (kN cN : Nat) (w : World) (hs : s.size ≤ 1048576) (hk : kN ≤ s.size) (hc : cN ≤ 255)
    (hem : s.toList.isEmpty = false) (hk0 : ((kN : Int) == 0) = false) (hkl : ((kN : Int) == (s.size : Int)) = true)
    (hL : ad (s.extract 0 kN) = false) (hW : ad s = false) (hI : ad (s.extract 0 kN ++ one cN ++ s.extract kN s.size) = false) (hO : ad (one cN) = false) (hD : dN cN = false) :
    Calls Try.prog 4 #[.string s, .int .i64 kN, .int .u8 cN] w fun e w' => e = .returned (.bool true) ∧ Grown w w' := by
  have hs2 : s.size ≤ 2097152 := by omega
  have hsl : (s.extract 0 kN).size ≤ 2097152 := by rw [ByteArray.size_extract]; omega
  have hsr : (s.extract kN s.size).size ≤ 2097152 := by rw [ByteArray.size_extract]; omega
  have hso : (one cN).size ≤ 2097152 := by rw [one_size]; omega
  have HS : Hid ((s.extract 0 kN ++ one cN ++ s.extract kN s.size).size ≤ 2097152) := ins_size s (one cN) kN hs (by rw [one_size]; omega)
  have hcv := one_str cN hc
  go_enter Try.func4, Try.ntmps4
  go_wp2_with (first | (go_at_call 8; go_in) | (go_at_call 7; refine (zzdigits_any _ _ (by assumption)).mono ?_; rintro e w' ⟨rfl, rfl⟩) | (go_at_call 9; refine (numeral_N _ _).mono ?_; rintro e w1 ⟨rfl, hg⟩))
  have hsz1 : (s.extract 0 kN).size = kN := by rw [ByteArray.size_extract]; omega
  have hsz2 : (one cN).size = 1 := one_size cN
  clear hcv hsl hsr hso hs2
  go_quiet ((go_at_call 7; exact zzdigits_q _ _ _ HS.out))
  go_wp2
  go_ret
  exact ⟨rfl, grown_drewN (grown_trans ((Grown.refl _).alloc _ _) hg) _⟩

set_option maxRecDepth 100000 in
set_option maxHeartbeats 1000000 in
/-- s empty -/
theorem at_nothing_false (s : ByteArray) (kN cN : Nat) (w : World) (hs : s.size ≤ 1048576) (hk : kN ≤ s.size) (hc : cN ≤ 255)
    (hem : s.toList.isEmpty = true) (hk0 : ((kN : Int) == 0) = true) (hkl : ((kN : Int) == (s.size : Int)) = true)
    (hW : ad s = false) (hI : ad (s.extract 0 kN ++ one cN ++ s.extract kN s.size) = false) (hO : ad (one cN) = false) (hD : dN cN = false) :
    Calls Try.prog 4 #[.string s, .int .i64 kN, .int .u8 cN] w fun e w' => e = .returned (.bool true) ∧ Grown w w' := by
  have hs2 : s.size ≤ 2097152 := by omega
  have hsl : (s.extract 0 kN).size ≤ 2097152 := by rw [ByteArray.size_extract]; omega
  have hsr : (s.extract kN s.size).size ≤ 2097152 := by rw [ByteArray.size_extract]; omega
  have hso : (one cN).size ≤ 2097152 := by rw [one_size]; omega
  have HS : Hid ((s.extract 0 kN ++ one cN ++ s.extract kN s.size).size ≤ 2097152) := ins_size s (one cN) kN hs (by rw [one_size]; omega)
  have hcv := one_str cN hc
  go_enter Try.func4, Try.ntmps4
  go_wp2_with (first | (go_at_call 8; go_in) | (go_at_call 7; refine (zzdigits_any _ _ (by assumption)).mono ?_; rintro e w' ⟨rfl, rfl⟩) | (go_at_call 9; refine (numeral_N _ _).mono ?_; rintro e w1 ⟨rfl, hg⟩))
  have hsz1 : (s.extract 0 kN).size = kN := by rw [ByteArray.size_extract]; omega
  have hsz2 : (one cN).size = 1 := one_size cN
  clear hcv hsl hsr hso hs2
  go_quiet ((go_at_call 7; exact zzdigits_q _ _ _ HS.out))
  go_wp2
  go_ret
  exact ⟨rfl, grown_drewN (grown_trans ((Grown.refl _).alloc _ _) hg) _⟩

end Go.Proofs.Qxb6619686a
