/-
  THE WALK of FnAllDigitsNumeralInsertedAnywhere (3) past its first tests.
-/
import Derived.Test.Qxb6619686aPlain
import Derived.Deep.QuietTactic
import Derived.BigQuiet
namespace Go.Proofs.Qxb6619686a
open Go.ChangeShapes Go.WideShapes Go.ChangeAt Go.RowKit

set_option maxRecDepth 100000 in
set_option maxHeartbeats 1000000 in
theorem splice_walk (s : ByteArray) (kN n : Nat) (w : World) (hs : s.size ≤ 1048576) (hk : kN ≤ s.size) (h64 : n < 18446744073709551616) (hne : 0 < s.size) :
    Calls Try.prog 3 #[.string s, .int .i64 kN, .int .u64 n] w fun e w' => e = .returned (.bool true) ∧ Grown w w' := by
  have hem := nonempty_of s hne
  go_enter Try.func3, Try.ntmps3
  go_wp2_with (go_at_call 5; go_in)
  refine (itoa_any n _ h64).mono ?_
  rintro e w1 ⟨t, rfl, had, hts, -, hg⟩
  go_wp2_with fail
  have hsz1 : (s.extract 0 kN).size = kN := by rw [ByteArray.size_extract]; omega
  have HS := ins_size s t kN hs hts
  have hins : ad (s.extract 0 kN ++ t ++ s.extract kN s.size) = ad s := by
    have ht := ad_size t had
    rw [ad_ins s t kN ht, ad_pos s hne, ← ad_pos t ht, had, Bool.true_and]
  go_quiet (fail)
  clear hsz1
  have hs2 : s.size ≤ 2097152 := by omega
  have ht2 : t.size ≤ 2097152 := by omega
  go_wp2_with (go_at_call 7; refine (zzdigits_any _ _ (by assumption)).mono ?_; rintro e w' ⟨rfl, rfl⟩)
  go_ret
  exact ⟨rfl, grown_drewN hg _⟩

set_option maxRecDepth 100000 in
set_option maxHeartbeats 1000000 in
theorem splice_walk0 (s : ByteArray) (kN n : Nat) (w : World) (hs : s.size ≤ 1048576) (hk : kN ≤ s.size) (h64 : n < 18446744073709551616) (H0 : Hid (s.size = 0)) :
    Calls Try.prog 3 #[.string s, .int .i64 kN, .int .u64 n] w fun e w' => e = .returned (.bool true) ∧ Grown w w' := by
  have hem : s.toList.isEmpty = true := by rw [ByteArray.toList_eq, empty_of s H0.out]; rfl
  go_enter Try.func3, Try.ntmps3
  go_wp2_with (go_at_call 5; go_in)
  refine (itoa_any n _ h64).mono ?_
  rintro e w1 ⟨t, rfl, had, hts, -, hg⟩
  go_wp2_with fail
  have hsz1 : (s.extract 0 kN).size = kN := by rw [ByteArray.size_extract]; omega
  have HS := ins_size s t kN hs hts
  have hins : ad (s.extract 0 kN ++ t ++ s.extract kN s.size) = true := by
    have ht := ad_size t had
    have e : al s = true := by rw [empty_of s H0.out]; decide
    rw [ad_ins s t kN ht, e, ← ad_pos t ht, had, Bool.true_and]
  go_quiet (fail)
  clear hsz1
  have ht2 : t.size ≤ 2097152 := by omega
  go_wp2_with (go_at_call 7; refine (zzdigits_any _ _ (by assumption)).mono ?_; rintro e w' ⟨rfl, rfl⟩)
  go_ret
  exact ⟨rfl, grown_drewN hg _⟩

end Go.Proofs.Qxb6619686a
