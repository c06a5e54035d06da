/-
  THE WALK of zzItoa (6): the numeral holds digits alone, one to twenty of them; below ten it is the one byte 48 + n.
-/
import Derived.Test.Qxb6619686aDigits
import Derived.Laws.IdiomStrings
import Derived.Deep.Light
namespace Go.Proofs.Qxb6619686a
open Go.ChangeShapes Go.WideShapes Go.ChangeAt Go.RowKit

/-- Where the loop of zzItoa stands: of what was there nothing has turned; the array of 20 bytes, in the first new block, holds y, and may be written. -/
structure Buf (w wr : World) (y : Nat → Int) : Prop where
  grown : Grown w wr
  dst : ∀ i, i < 20 → wr.cell? ⟨w.heap.size, i, none⟩ = some (.int .u8 (y i))
  free : ∀ i, wr.frozen? ⟨w.heap.size, i, none⟩ = false

theorem Buf.made (w : World) : Buf w (w.alloc (.cells #[.int .u8 0, .int .u8 0, .int .u8 0, .int .u8 0, .int .u8 0, .int .u8 0, .int .u8 0, .int .u8 0, .int .u8 0, .int .u8 0,
    .int .u8 0, .int .u8 0, .int .u8 0, .int .u8 0, .int .u8 0, .int .u8 0, .int .u8 0, .int .u8 0, .int .u8 0, .int .u8 0] 29)) (fun _ => 0) := by
  refine ⟨(Grown.refl _).alloc _ _, fun i hi => ?_, fun i => ?_⟩
  · rw [World.cell?_alloc_new]
    have e : i = 0 ∨ i = 1 ∨ i = 2 ∨ i = 3 ∨ i = 4 ∨ i = 5 ∨ i = 6 ∨ i = 7 ∨ i = 8 ∨ i = 9 ∨ i = 10 ∨ i = 11 ∨ i = 12 ∨ i = 13 ∨ i = 14 ∨ i = 15 ∨ i = 16 ∨ i = 17 ∨ i = 18 ∨ i = 19 := by omega
    rcases e with rfl | rfl | rfl | rfl | rfl | rfl | rfl | rfl | rfl | rfl | rfl | rfl | rfl | rfl | rfl | rfl | rfl | rfl | rfl | rfl <;> rfl
  · rw [frozen?_alloc_cells]
    simp [World.frozen?]

theorem Buf.put {w wr : World} {y : Nat → Int} (h : Buf w wr y) (k : Nat) (v : Int) :
    Buf w (wr.setCell ⟨w.heap.size, k, none⟩ (.int .u8 v)) (fun j => if j = k then v else y j) := by
  refine ⟨h.grown.setCell (Nat.le_refl _) _, fun i hi => ?_, fun i => ?_⟩
  · by_cases e : i = k
    · subst e
      rw [World.cell?_setCell_same _ _ _ (h.dst i hi)]; exact (congrArg (fun n => some (Value.int IntKind.u8 n)) (if_pos rfl)).symm
    · rw [World.cell?_setCell_other _ _ _ _ (by intro h; cases h; exact e rfl), if_neg e]; exact h.dst i hi
  · rw [World.frozen?_setCell]; exact h.free i

/-- What holds at the head of a round: k places are left, m is what is left of n. -/
def Inv (n k m : Nat) (y : Nat → Int) : Prop :=
  m < 10 ^ k ∧ (k = 20 → m = n) ∧ (k ≤ 19 → 10 * m ≤ n ∧ y 19 = 48 + (n : Int) % 10) ∧ (k ≤ 18 → 10 ≤ n) ∧ ∀ j, k ≤ j → j < 20 → 48 ≤ y j ∧ y j ≤ 57

theorem Inv.start (n : Nat) (h : n < 18446744073709551616) (y : Nat → Int) : Inv n 20 n y :=
  ⟨by have : (10 : Nat) ^ 20 = 100000000000000000000 := by decide
      omega, fun _ => rfl, fun h => absurd h (by omega), fun h => absurd h (by omega), fun j h1 h2 => absurd h1 (by omega)⟩

theorem Inv.pos {n k m : Nat} {y : Nat → Int} (h : Inv n k m y) (hm : 0 < m) : 1 ≤ k := by
  rcases Nat.eq_zero_or_pos k with e | e
  · subst e; have := h.1; simp at this; omega
  · exact e

theorem Inv.step {n k m : Nat} {y : Nat → Int} (h : Inv n (k + 1) m y) (hk : k + 1 ≤ 20) (hm : 0 < m) :
    Inv n k (m / 10) (fun j => if j = k then 48 + (m : Int) % 10 else y j) := by
  obtain ⟨h1, h2, h3, h4, h5⟩ := h
  refine ⟨?_, fun e => absurd e (by omega), fun _ => ?_, fun hk18 => ?_, fun j hj hj2 => ?_⟩
  · rw [Nat.pow_succ] at h1; omega
  · by_cases e : k = 19
    · subst e
      have := h2 rfl
      subst this
      exact ⟨by omega, if_pos rfl⟩
    · have := h3 (by omega)
      exact ⟨by omega, (if_neg (by omega)).trans this.2⟩
  · have := h3 (by omega); omega
  · by_cases e : j = k
    · simp only [e, if_true]; omega
    · simp only [e, if_false]; exact h5 j (by omega) hj2

theorem len29 : Try.prog.arrayLen 29 = 20 := by kernel_rfl
theorem elem29 : Try.prog.elem 29 = 5 := by kernel_rfl
theorem array29 : Try.prog.underlying 29 = some (.array (Try.prog.arrayLen 29) (Try.prog.elem 29)) := by kernel_rfl
theorem size5 (w : World) : (sizeOf 5).run Try.prog w = .ok 1 w := by kernel_rfl

/-- 'buf[i:]', buf an array of 20 bytes, i below 20. -/
theorem cut_buf (g k : Nat) (hk : k ≤ 19) (w : World) : (Instr.sliceAt 29 (.pointer (some ⟨g, 0, none⟩)) (some (.int .i64 (k : Int))) none none).run Try.prog w =
    .ok (.slice (some ⟨g, k, none⟩) (20 - k) (20 - k)) w := by
  rw [run_sliceAt_array_l w 29 ⟨g, 0, none⟩ array29 .i64 k (by omega) (by rw [len29]; omega), elem29, size5, len29]
  simp only [Result.andThen_ok, slicedAt, Int.toNat_natCast, if_neg (show ¬ 20 = k by omega), Nat.mul_one]
  simp [Addr.add]
  omega

/-- The bytes from place k on, as a list. -/
def tailL (y : Nat → Int) (k : Nat) : List UInt8 := (List.range (20 - k)).map fun j => UInt8.ofNat (y (k + j)).toNat

theorem tailL_len (y : Nat → Int) (k : Nat) : (tailL y k).length = 20 - k := by simp [tailL]

theorem tailL_get (y : Nat → Int) (k : Nat) (h : ∀ j, k ≤ j → j < 20 → 48 ≤ y j ∧ y j ≤ 57) (j : Nat) (hj : j < (tailL y k).length) : ((tailL y k)[j].toNat : Int) = y (k + j) := by
  have hj' : j < 20 - k := by rw [tailL_len] at hj; exact hj
  have hb := h (k + j) (by omega) (by omega)
  simp only [tailL, List.getElem_map, List.getElem_range]
  rw [UInt8.toNat_ofNat_of_lt' (by simp; omega)]
  omega

theorem str_buf (w wr : World) (y : Nat → Int) (k : Nat) (hk : k ≤ 19) (hb : Buf w wr y) (h : ∀ j, k ≤ j → j < 20 → 48 ≤ y j ∧ y j ≤ 57) :
    (convert 27 9 (.slice (some ⟨w.heap.size, k, none⟩) (20 - k) (20 - k))).run Try.prog wr = .ok (.string ⟨(tailL y k).toArray⟩) wr := by
  have hr := run_convert_bytes_back (P := Try.prog) wr 27 9 5 ⟨w.heap.size, k, none⟩ (20 - k) (tailL y k) Try.underlying27 Try.underlying5 Try.underlying9
    (fun j hj => by
      have hj' : j < 20 - k := by rw [tailL_len] at hj; exact hj
      rw [tailL_get y k h j hj]
      have := hb.dst (k + j) (by omega)
      by_cases e : j = 0
      · subst e; simpa [Addr.add] using this
      · simpa [Addr.add, e] using this)
  rw [tailL_len] at hr
  exact hr

theorem tailL_ad (y : Nat → Int) (k : Nat) (hk : k ≤ 19) (h : ∀ j, k ≤ j → j < 20 → 48 ≤ y j ∧ y j ≤ 57) : ad ⟨(tailL y k).toArray⟩ = true := by
  apply ad_true
  · show 0 < (tailL y k).toArray.size
    simp [tailL_len]; omega
  · intro j hj
    have hj1 : j < (tailL y k).length := by
      have : j < (tailL y k).toArray.size := hj
      simpa using this
    have hj2 : j < 20 - k := by rw [tailL_len] at hj1; exact hj1
    have e : (((⟨(tailL y k).toArray⟩ : ByteArray)[j]).toNat : Int) = y (k + j) := tailL_get y k h j hj1
    have := h (k + j) (by omega) (by omega)
    omega

/-- The one byte that writes n, n below ten. -/
def One (s : ByteArray) (n : Nat) : Prop := ∃ h : s.size = 1, (s[0].toNat : Int) = 48 + (n : Int)

theorem itoa_end (n : Nat) (w wr : World) (y : Nat → Int) (k : Nat) (hk : k ≤ 19) (hb : Buf w wr y) (hi : Inv n k 0 y) :
    ∃ S, (convert 27 9 (.slice (some ⟨w.heap.size, k, none⟩) (20 - k) (20 - k))).run Try.prog wr = .ok (.string S) wr ∧ Hid (ad S = true ∧ S.size ≤ 20 ∧ (n < 10 → One S n)) := by
  refine ⟨_, str_buf w wr y k hk hb hi.2.2.2.2, tailL_ad y k hk hi.2.2.2.2, ?_, fun hn => ?_⟩
  · show (tailL y k).toArray.size ≤ 20
    simp [tailL_len]
  · have hk19 : k = 19 := by
      rcases Nat.lt_or_ge k 19 with h | h
      · have := hi.2.2.2.1 (by omega); omega
      · omega
    subst hk19
    have hsz : (⟨(tailL y 19).toArray⟩ : ByteArray).size = 1 := by
      show (tailL y 19).toArray.size = 1
      simp [tailL_len]
    refine ⟨hsz, ?_⟩
    have e : (((⟨(tailL y 19).toArray⟩ : ByteArray)[0]).toNat : Int) = y 19 := tailL_get y 19 hi.2.2.2.2 0 (by simp [tailL_len])
    rw [e, (hi.2.2.1 (by omega)).2]
    omega

set_option maxRecDepth 100000 in
set_option maxHeartbeats 1000000 in
theorem itoa_pos (n : Nat) (w : World) (h0 : 0 < n) (h64 : n < 18446744073709551616) :
    Calls Try.prog 6 #[.int .u64 n] w fun e w' => ∃ s, e = .returned (.string s) ∧ ad s = true ∧ s.size ≤ 20 ∧ (n < 10 → One s n) ∧ Grown w w' := by
  have hz : ((n : Int) == 0) = false := beq_eq_false_iff_ne.2 (by omega)
  go_enter Try.func6, Try.ntmps6
  go_wp2
  clear hz
  go_loopw [0, 4] (fun a i wr => ∃ k m : Nat, ∃ y : Nat → Int, k ≤ 20 ∧ m ≤ n ∧ i = .int .i64 k ∧ a = .int .u64 m ∧ Buf w wr y ∧ Hid (Inv n k m y)) (fun _ i _ => (intOf i).toNat)
  case atStart => exact ⟨20, n, _, Nat.le_refl _, Nat.le_refl _, rfl, rfl, Buf.made w, Inv.start n h64 _⟩
  case round =>
    obtain ⟨k, m, y, hk, hmn, rfl, rfl, hbuf, HI⟩ := hrel
    by_cases hm : 0 < m
    · have hk1 := HI.out.pos hm
      obtain ⟨k', rfl⟩ : ∃ k', k = k' + 1 := ⟨k - 1, by omega⟩
      clear hk1
      have hd1 := hbuf.dst k' (by omega)
      have hf1 := hbuf.free k'
      have HB := hbuf.put k' (48 + (m : Int) % 10)
      have HI2 : Hid (Inv n k' (m / 10) (fun j => if j = k' then 48 + (m : Int) % 10 else y j)) := HI.out.step hk hm
      clear hbuf
      go_wp2
      go_roundw
      case rel => exact ⟨k', m / 10, _, by omega, by omega, rfl, by go_num, HB, HI2⟩
      case measure => simp [intOf]
    · have hm0 : m = 0 := by omega
      subst hm0
      have hk20 : k ≤ 19 := by
        rcases Nat.lt_or_ge k 20 with h | h
        · omega
        · have := HI.out.2.1 (by omega); omega
      have hsl := cut_buf w.heap.size k hk20
      obtain ⟨S, hcv, HG⟩ := itoa_end n w wr y k hk20 hbuf HI.out
      go_wp2
      go_ret
      exact ⟨S, rfl, HG.out.1, HG.out.2.1, HG.out.2.2, hbuf.grown⟩

/-- zzItoa: digits alone, at most twenty; below ten the one byte. -/
theorem itoa_any (n : Nat) (w : World) (h64 : n < 18446744073709551616) :
    Calls Try.prog 6 #[.int .u64 n] w fun e w' => ∃ s, e = .returned (.string s) ∧ ad s = true ∧ s.size ≤ 20 ∧ (n < 10 → One s n) ∧ Grown w w' := by
  by_cases h0 : 0 < n
  · exact itoa_pos n w h0 h64
  · have hn : n = 0 := by omega
    subst hn
    go_enter Try.func6, Try.ntmps6
    go_wp2
    go_ret
    exact ⟨_, rfl, by decide, by decide, fun _ => ⟨rfl, rfl⟩, Grown.refl _⟩

end Go.Proofs.Qxb6619686a
