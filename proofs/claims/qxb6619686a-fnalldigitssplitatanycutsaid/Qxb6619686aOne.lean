/-
  FOR FnAllDigitsSplitAtAnyCut (4): the text of one byte, and the contracts in the forms that the walk wants.
-/
import Derived.Test.Qxb6619686aPlain
import Derived.Deep.QuietTactic
import Derived.BigQuiet
namespace Go.Proofs.Qxb6619686a
open Go.ChangeShapes Go.WideShapes Go.ChangeAt Go.RowKit

/-- The text of one byte. -/
def one (c : Nat) : ByteArray := ⟨#[UInt8.ofNat c]⟩
/-- Is it a numeral? -/
def dN (c : Nat) : Bool := decide (48 ≤ (c : Int) ∧ (c : Int) ≤ 57)

theorem ofNat_toNat (c : Nat) (hc : c ≤ 255) : (UInt8.ofNat c).toNat = c := UInt8.toNat_ofNat_of_lt' (by show c < 256; omega)

/-- 'string([]byte{c})'. -/
theorem one_str (c : Nat) (hc : c ≤ 255) (T : TypeId) (w : World) : (convert 27 9 (.slice (some ⟨w.heap.size, 0, none⟩) 1 1)).run Try.prog (w.alloc (.cells #[.int .u8 (c : Int)] T)) =
    .ok (.string (one c)) (w.alloc (.cells #[.int .u8 (c : Int)] T)) := by
  have hr := run_convert_bytes_back (P := Try.prog) (w.alloc (.cells #[.int .u8 (c : Int)] T)) 27 9 5 ⟨w.heap.size, 0, none⟩ 1 [UInt8.ofNat c] Try.underlying27 Try.underlying5 Try.underlying9
    (fun j hj => by
      have : j = 0 := by simpa using hj
      subst this
      show (w.alloc (.cells #[.int .u8 (c : Int)] T)).cell? ⟨w.heap.size, 0, none⟩ = some (.int .u8 (((UInt8.ofNat c).toNat : Nat) : Int))
      rw [World.cell?_alloc_new, ofNat_toNat c hc]; rfl)
  exact hr

theorem one_size (c : Nat) : (one c).size = 1 := rfl

theorem one_al (c : Nat) (hc : c ≤ 255) : al (one c) = dN c := by
  show ([UInt8.ofNat c].all dg) = _
  simp only [List.all_cons, List.all_nil, Bool.and_true, dg, ofNat_toNat c hc, dN]
  rw [Bool.eq_iff_iff]; simp; omega

theorem one_ad (c : Nat) (hc : c ≤ 255) : ad (one c) = dN c := by
  rw [ad_pos _ (by rw [one_size]; omega), one_al c hc]

theorem numeral_N (c : Nat) (w : World) : Calls Try.prog 9 #[.int .u8 (c : Int)] w fun e w' => e = .returned (.bool (dN c)) ∧ Grown w w' := numeral_any c w

/-- ZZallDigits inside a region that draws its order. -/
theorem zzdigits_q (s : ByteArray) (w : World) (n : Nat) (hs : s.size ≤ 2097152) :
    Calls Try.prog 7 #[.string s] (w.drewN n) fun e w'' => e = .returned (.bool (ad s)) ∧ ∃ m, w'' = w.drewN m :=
  (zzdigits_any s _ hs).mono fun _ _ ⟨he, hw⟩ => ⟨he, n, hw.symm⟩

/-- With one byte put in at k. -/
theorem ad_one (s : ByteArray) (k c : Nat) (hc : c ≤ 255) : ad (s.extract 0 k ++ one c ++ s.extract k s.size) = (dN c && al s) := by
  rw [ad_ins s (one c) k (by rw [one_size]; omega), one_al c hc]

end Go.Proofs.Qxb6619686a
