/-
  THE SHARED WALKS of seat b6619452a: (robots.Rule).String (function 7) and zzReadBack (function 8), each at every input that the three laws hand it.
-/
import Derived.Test.Qxb6619452aRows
import Derived.WalkKit
import Derived.ProofKit
import Derived.WalkSpells
import Derived.WalkLawsBesides
import Derived.Below
import Derived.Deep.QuietTactic
import Derived.BigQuiet
namespace Go.Proofs.Qxb6619452a
open Go.ChangeShapes Go.WideShapes Go.ChangeAt Go.RowKit

/-- The field name, the colon and the space ahead of the pattern. -/
def pre (b : Bool) : ByteArray := if b then ⟨#[65, 108, 108, 111, 119, 58, 32]⟩ else ⟨#[68, 105, 115, 97, 108, 108, 111, 119, 58, 32]⟩

/-- The line of a rule. -/
def line (b : Bool) (p : ByteArray) : ByteArray := pre b ++ p

/-- Where the colon stands. -/
def colonAt (b : Bool) : Nat := if b then 5 else 8

theorem pre_size (b : Bool) : (pre b).size = colonAt b + 2 := by cases b <;> rfl
theorem line_size (b : Bool) (p : ByteArray) : (line b p).size = colonAt b + 2 + p.size := by
  unfold line; rw [ByteArray.size_append, pre_size]
theorem colonAt_le (b : Bool) : colonAt b ≤ 8 := by cases b <;> decide

theorem pre_before (b : Bool) : ∀ k (h : k < (pre b).size), k < colonAt b → (((pre b)[k].toNat : Int) != 58) = true := by
  cases b
  · intro k _ hk
    have hk' : k < 8 := hk
    rcases k with _ | _ | _ | _ | _ | _ | _ | _ | k
    all_goals first | rfl | omega
  · intro k _ hk
    have hk' : k < 5 := hk
    rcases k with _ | _ | _ | _ | _ | k
    all_goals first | rfl | omega

theorem line_before (b : Bool) (p : ByteArray) (k : Nat) (h : k < (line b p).size) (hk : k < colonAt b) : (((line b p)[k].toNat : Int) != 58) = true := by
  have hl : k < (pre b).size := by rw [pre_size]; omega
  have e : (line b p)[k] = (pre b)[k] := ByteArray.getElem_append_left hl
  rw [e]; exact pre_before b k hl hk

theorem line_colon (b : Bool) (p : ByteArray) (h : colonAt b < (line b p).size) : (((line b p)[colonAt b].toNat : Int) != 58) = false := by
  have hl : colonAt b < (pre b).size := by rw [pre_size]; omega
  have e : (line b p)[colonAt b] = (pre b)[colonAt b] := ByteArray.getElem_append_left hl
  rw [e]; cases b <;> rfl

theorem line_space (b : Bool) (p : ByteArray) (h : colonAt b + 1 < (line b p).size) : (((line b p)[colonAt b + 1].toNat : Int) != 32) = false := by
  have hl : colonAt b + 1 < (pre b).size := by rw [pre_size]; omega
  have e : (line b p)[colonAt b + 1] = (pre b)[colonAt b + 1] := ByteArray.getElem_append_left hl
  rw [e]; cases b <;> rfl

theorem line_name (b : Bool) (p : ByteArray) : ((line b p).extract 0 (colonAt b)).toList = if b then [65, 108, 108, 111, 119] else [68, 105, 115, 97, 108, 108, 111, 119] := by
  have e : (line b p).extract 0 (colonAt b) = (pre b).extract 0 (colonAt b) := by
    unfold line
    rw [ByteArray.extract_append, pre_size, Nat.zero_sub, show colonAt b - (colonAt b + 2) = 0 by omega, ByteArray.extract_same, ByteArray.append_empty]
  rw [e, ByteArray.toList_eq]
  cases b <;> rfl

theorem line_rest (b : Bool) (p : ByteArray) : (line b p).extract (colonAt b + 2) (line b p).size = p :=
  ByteArray.extract_append_eq_right (pre_size b).symm (by rw [line_size, pre_size])

theorem line_add (b : Bool) (p q : ByteArray) : line b (p ++ q) = line b p ++ q := ByteArray.append_assoc.symm

/-- '(robots.Rule).String' gives the rule's line. -/
theorem string_any (b : Bool) (p : ByteArray) (w : World) (hp : p.size ≤ 1048576) :
    Calls Try.prog 7 #[.agg #[.bool b, .string p]] w fun e w' => e = .returned (.string (line b p)) ∧ w' = w.alloc (.cells #[.bool b, .string p] 24) := by
  cases b
  · go_enter Try.func7, Try.ntmps7
    go_wp2
    go_ret
    exact ⟨rfl, rfl⟩
  · go_enter Try.func7, Try.ntmps7
    go_wp2
    go_ret
    exact ⟨rfl, rfl⟩

theorem ret3 {b c : Bool} {x y : ByteArray} (h : x = y) : Ending.returned (.tuple #[.bool b, .string x, .bool c]) = .returned (.tuple #[.bool b, .string y, .bool c]) := by rw [h]

set_option maxHeartbeats 400000 in
/-- 'zzReadBack' at a text whose first colon stands at n, with a space behind it and the name of one of the two fields ahead of it. -/
theorem readBack_any (b : Bool) (s : ByteArray) (n : Nat) (w : World) (hs : s.size ≤ 4194304) (hn : n + 1 < s.size)
    (hne : ∀ k (_ : k < s.size), k < n → ((s[k].toNat : Int) != 58) = true) (hc : ((s[n].toNat : Int) != 58) = false) (hsp : ((s[n+1].toNat : Int) != 32) = false)
    (hA : ((s.extract 0 n).toList == [65, 108, 108, 111, 119]) = b) (hD : ((s.extract 0 n).toList == [68, 105, 115, 97, 108, 108, 111, 119]) = !b) :
    Calls Try.prog 8 #[.string s] w fun e w' => e = .returned (.tuple #[.bool b, .string (s.extract (n + 2) s.size), .bool true]) ∧ ∃ m, w' = w.drewN m := by
  have e0 : (s.extract (n + 1) s.size)[0]'(by simp; omega) = s[n + 1] := by simp [ByteArray.getElem_extract]
  have h32 : ((((s.extract (n + 1) s.size)[0]'(by simp; omega)).toNat : Int) != 32) = false := by rw [e0]; exact hsp
  have hz : (((s.size - (n + 1) : Nat) : Int) == 0) = false := beq_eq_false_iff_ne.2 (by omega)
  have hfin : Hid ((s.extract (n + 1) s.size).extract 1 (s.size - (n + 1)) = s.extract (n + 2) s.size) := by
    show _ = _
    rw [ByteArray.extract_extract]; congr 1; omega
  clear e0 hsp
  go_enter Try.func8, Try.ntmps8
  go_wp2
  go_loop [5] (fun i => ∃ k : Nat, k ≤ n ∧ i = .int .i64 k) (fun i => s.size - (intOf i).toNat)
  case atStart => exact ⟨0, Nat.zero_le _, rfl⟩
  case round =>
    obtain ⟨k, hk, rfl⟩ := hrel
    by_cases hlt : k < n
    · have h1 := hne k (by omega) hlt
      clear hne hc h32 hz hA hD
      go_wp2
      go_round
      case rel => exact ⟨k + 1, by omega, by go_num⟩
      case measure => simp [intOf]; omega
    · have hkn : k = n := by omega
      subst hkn
      clear hne
      cases b
      · simp only [Bool.not_false] at hD
        go_wp2_with fail
        go_quiet (fail)
        go_wp2
        go_ret3
        exact ⟨ret3 hfin.out, _, rfl⟩
      · simp only [Bool.not_true] at hD
        go_wp2_with fail
        go_quiet (fail)
        go_wp2
        go_ret3
        exact ⟨ret3 hfin.out, _, rfl⟩

theorem Grown.drewN {W w' : World} (h : Grown W w') (m : Nat) : Grown W (w'.drewN m) := h

/-- 'zzReadBack' reads a rule's line back. -/
theorem readBack_line (b : Bool) (p : ByteArray) (w : World) (hp : p.size ≤ 1048576) :
    Calls Try.prog 8 #[.string (line b p)] w fun e w' => e = .returned (.tuple #[.bool b, .string p, .bool true]) ∧ ∃ m, w' = w.drewN m := by
  have hsz := line_size b p
  have hcl := colonAt_le b
  have h := readBack_any b (line b p) (colonAt b) w (by omega) (by omega) (line_before b p) (line_colon b p (by omega)) (line_space b p (by omega))
    (by rw [line_name]; cases b <;> rfl) (by rw [line_name]; cases b <;> rfl)
  rw [line_rest] at h
  exact h

end Go.Proofs.Qxb6619452a
