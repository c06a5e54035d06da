/-
  THE WALK of FnHex4DigitPlaceValueAnyCase (6) past its first tests, and its plain law.
-/
import Derived.Test.Qxb6619679aCopy
namespace Go.Proofs.Qxb6619679a
open Go.ChangeShapes Go.WideShapes Go.ChangeAt Go.RowKit

/-- Where the second loop stands: of what was there nothing has turned; the copy of s, in the first new block, holds z; t, in the second, holds y, and may be written. -/
structure St (w wr : World) (z y : Nat → Int) : Prop where
  below : Below w.heap.size w wr
  src : ∀ i, i < 4 → wr.cell? ⟨w.heap.size, i, none⟩ = some (.int .u8 (z i))
  dst : ∀ i, i < 4 → wr.cell? ⟨w.heap.size + 1, i, none⟩ = some (.int .u8 (y i))
  free : ∀ i, wr.frozen? ⟨w.heap.size + 1, i, none⟩ = false

theorem St.made {w W2 : World} {z : Nat → Int} (hb : Below w.heap.size w W2) (hs : W2.heap.size = w.heap.size + 1) (hc : ∀ i, i < 4 → W2.cell? ⟨w.heap.size, i, none⟩ = some (.int .u8 (z i))) :
    St w (W2.alloc (.cells (madeCells #[.int .u8 0] 4) 5)) z (fun _ => 0) := by
  refine ⟨hb.alloc (by omega) _, fun i hi => ?_, fun i hi => ?_, fun i => ?_⟩
  · exact (World.cell?_alloc_lt _ _ _ (show w.heap.size < W2.heap.size by omega)).trans (hc i hi)
  · rw [← hs, World.cell?_alloc_new]
    simp [madeCells, hi, Nat.mod_one]
  · have e1 : (W2.alloc (.cells (madeCells #[.int .u8 0] 4) 5)).heap[w.heap.size + 1]? = some (.cells (madeCells #[.int .u8 0] 4) 5) := by rw [← hs]; exact (MapKept.heap_alloc W2 _).1
    simp [World.frozen?, e1]

theorem St.put {w wr : World} {z y : Nat → Int} (h : St w wr z y) (k : Nat) (hk : k < 4) (v : Int) :
    St w (wr.setCell ⟨w.heap.size + 1, k, none⟩ (.int .u8 v)) z (fun j => if j = k then v else y j) := by
  refine ⟨h.below.setCell (by simp) _, fun i hi => ?_, fun i hi => ?_, fun i => ?_⟩
  · rw [World.cell?_setCell_other _ _ _ _ (by simp)]; exact h.src i hi
  · by_cases e : i = k
    · subst e
      rw [World.cell?_setCell_same _ _ _ (h.dst i hi)]; exact (congrArg (fun n => some (Value.int IntKind.u8 n)) (if_pos rfl)).symm
    · rw [World.cell?_setCell_other _ _ _ _ (by intro h; cases h; exact e rfl), if_neg e]; exact h.dst i hi
  · rw [World.frozen?_setCell]; exact h.free i

/-- The other case of a letter. -/
def fl (c : Int) : Int := if 97 ≤ c ∧ c ≤ 102 then c - 32 else if 65 ≤ c ∧ c ≤ 70 then c + 32 else c

theorem fl_hex {c : Int} (h : IsHex c) : IsHex (fl c) := by
  unfold IsHex at *; unfold fl; split
  · omega
  · split <;> omega

theorem hd_fl {c : Int} (h : IsHex c) : hd (fl c) = hd c := by
  unfold IsHex at h; unfold fl
  rcases h with h | h | h
  · rw [if_neg (by omega), if_neg (by omega)]
  · rw [if_pos h]; unfold hd; rw [if_neg (by omega), if_neg (by omega), if_neg (by omega), if_pos (by omega)]; omega
  · rw [if_neg (by omega), if_pos h]; unfold hd; rw [if_neg (by omega), if_pos (by omega), if_neg (by omega), if_neg (by omega)]; omega

theorem fl_bd {c : Int} (h : IsHex c) : 48 ≤ fl c ∧ fl c ≤ 102 := by
  have := fl_hex h; unfold IsHex at this; omega

/-- The digit behind 9 is A; a letter's neighbour is the next letter. -/
theorem bump_nine {c : Int} (h : IsHex c) (e : fl c = 57) : IsHex 65 ∧ hd 65 = hd c + 1 := by
  rw [← hd_fl h, e]; exact ⟨by unfold IsHex; omega, by decide⟩

theorem bump_next {c : Int} (h : IsHex c) (e : fl c ≠ 57) (h1 : c ≠ 102) (h2 : c ≠ 70) : IsHex (fl c + 1) ∧ hd (fl c + 1) = hd c + 1 := by
  rw [← hd_fl h]
  unfold IsHex at h ⊢
  unfold fl at *
  rcases h with h | h | h
  · rw [if_neg (by omega), if_neg (by omega)] at *
    refine ⟨by omega, ?_⟩; unfold hd; rw [if_pos (by omega), if_pos (by omega)]; omega
  · rw [if_pos h] at *
    refine ⟨by omega, ?_⟩; unfold hd; rw [if_neg (by omega), if_neg (by omega), if_neg (by omega), if_neg (by omega)]; omega
  · rw [if_neg (by omega), if_pos h] at *
    refine ⟨by omega, ?_⟩; unfold hd; rw [if_neg (by omega), if_pos (by omega), if_neg (by omega), if_pos (by omega)]; omega

theorem y_step {z y : Nat → Int} {k : Nat} {v : Int} (hy : ∀ j, j < k → y j = fl (z j)) (hv : fl (z k) = v) : ∀ j, j < k + 1 → (fun j => if j = k then v else y j) j = fl (z j) := by
  intro j hj
  by_cases e : j = k
  · subst e; simp [hv]
  · simp [e]; exact hy j (by omega)

/-- THE PLAIN LAW: the i-th digit raised by one raises the number by 16 to the power 3 - i. -/
theorem V_raise (z y : Nat → Int) (v : Int) (iN : Nat) (hi : iN ≤ 3) (hh : ∀ j, j < 4 → IsHex (z j)) (hy : ∀ j, j < 4 → y j = fl (z j)) (hv : hd v = hd (z iN) + 1) :
    V (fun j => if j = iN then v else y j) 4 - V z 4 = 2 ^ (4 * (3 - iN)) := by
  have e0 := hd_fl (hh 0 (by omega))
  have e1 := hd_fl (hh 1 (by omega))
  have e2 := hd_fl (hh 2 (by omega))
  have e3 := hd_fl (hh 3 (by omega))
  have e : iN = 0 ∨ iN = 1 ∨ iN = 2 ∨ iN = 3 := by omega
  rcases e with rfl | rfl | rfl | rfl <;> simp [V, hy 0 (by omega), hy 1 (by omega), hy 2 (by omega), hy 3 (by omega), e0, e1, e2, e3, hv] <;> omega

set_option maxRecDepth 100000 in
set_option maxHeartbeats 1000000 in
theorem place_walk (x : Addr) (len cap iN : Nat) (zs : List Int) (w : World) (h4 : 4 ≤ len) (hlen : len ≤ 1048576) (hi : iN ≤ 3)
    (hzl : len ≤ zs.length) (hcell : ∀ i, i < zs.length → w.cell? (x.add i) = some (.int .u8 (zs.getD i 0))) :
    Calls Try.prog 6 #[.slice (some x) len cap, .int .i64 iN] w fun e w' => e = .returned (.bool true) ∧ Below w.heap.size w w' := by
  have hmk := make_row len hlen
  obtain ⟨W2, z, hcp, hsrc, hbel, hsz⟩ := copied4 x len cap zs w h4 hzl hcell
  clear hcell hzl
  go_enter Try.func6, Try.ntmps6
  go_wp2
  clear hcp hmk
  go_loop [6] (fun i => ∃ k : Nat, k ≤ 4 ∧ i = .int .i64 k ∧ Hid (∀ j, j < k → IsHex (z j))) (fun i => 4 - (intOf i).toNat)
  case atStart => exact ⟨0, Nat.zero_le _, rfl, fun j h => absurd h (Nat.not_lt_zero _)⟩
  case round =>
    obtain ⟨k, hk, rfl, Hhex⟩ := hrel
    by_cases hlt : k < 4
    · have hck := hsrc k hlt
      by_cases hx : IsHex (z k)
      · have HX : Hid (IsHex (z k)) := hx
        clear hx
        go_wp2_with (go_at_call 15; refine (isHex_yes _ _ HX.out).mono ?_; rintro e w' ⟨rfl, rfl⟩)
        go_round
        case rel => exact ⟨k + 1, by omega, by go_num, fun j hj => by
          rcases Nat.lt_or_ge j k with h | h
          · exact Hhex.out j h
          · have : j = k := by omega
            subst this; exact HX.out⟩
        case measure => simp [intOf]; omega
      · have HX : Hid (¬ IsHex (z k)) := hx
        clear hx
        go_wp2_with (go_at_call 15; refine (isHex_no _ _ HX.out).mono ?_; rintro e w' ⟨rfl, rfl⟩)
        go_ret
        exact ⟨rfl, hbel⟩
    · have hk4 : k = 4 := by omega
      subst hk4
      have hci := hsrc iN (by omega)
      have hmk4 := make_four
      have hst := St.made hbel hsz hsrc
      clear hsrc
      by_cases hf1 : (z iN == 102) = true
      · go_wp2
        go_ret
        exact ⟨rfl, hbel⟩
      · have hf1' : (z iN == 102) = false := by simpa using hf1
        clear hf1
        by_cases hf2 : (z iN == 70) = true
        · go_wp2
          go_ret
          exact ⟨rfl, hbel⟩
        · have hf2' : (z iN == 70) = false := by simpa using hf2
          clear hf2
          go_wp2
          have HF1 : Hid (z iN ≠ 102) := beq_eq_false_iff_ne.1 hf1'
          have HF2 : Hid (z iN ≠ 70) := beq_eq_false_iff_ne.1 hf2'
          clear hci hmk4 hf1' hf2' hbel
          go_loopw [8] (fun i wr => ∃ k : Nat, ∃ y : Nat → Int, k ≤ 4 ∧ i = .int .i64 k ∧ St w wr z y ∧ Hid (∀ j, j < k → y j = fl (z j))) (fun i _ => 4 - (intOf i).toNat)
          case atStart => exact ⟨0, _, Nat.zero_le _, rfl, hst, fun j h => absurd h (Nat.not_lt_zero _)⟩
          case round =>
            clear hst hsz
            obtain ⟨k, y, hk2, rfl, hst, Hy⟩ := hrel
            by_cases hlt2 : k < 4
            · have hs1 := hst.src k hlt2
              have hd1 := hst.dst k hlt2
              have hf1 := hst.free k
              have hx := Hhex.out k hlt2
              unfold IsHex at hx
              rcases hx with hx | hx | hx
              · have HF : Hid (fl (z k) = z k) := by show _ = _; unfold fl; rw [if_neg (by omega), if_neg (by omega)]
                have HST : Hid (St w (wr.setCell ⟨w.heap.size + 1, k, none⟩ (.int .u8 (z k))) z (fun j => if j = k then z k else y j)) := hst.put k hlt2 (z k)
                clear hst
                go_wp2
                go_roundw
                case rel => exact ⟨k + 1, _, by omega, by go_num, HST.out, y_step Hy.out HF.out⟩
                case measure => simp [intOf]; omega
              · have HF : Hid (fl (z k) = z k - 32) := by show _ = _; unfold fl; rw [if_pos hx]
                have HST : Hid (St w (wr.setCell ⟨w.heap.size + 1, k, none⟩ (.int .u8 (z k - 32))) z (fun j => if j = k then z k - 32 else y j)) := hst.put k hlt2 (z k - 32)
                clear hst
                go_wp2
                go_roundw
                case rel => exact ⟨k + 1, _, by omega, by go_num, HST.out, y_step Hy.out HF.out⟩
                case measure => simp [intOf]; omega
              · have HF : Hid (fl (z k) = z k + 32) := by show _ = _; unfold fl; rw [if_neg (by omega), if_pos hx]
                have HST : Hid (St w (wr.setCell ⟨w.heap.size + 1, k, none⟩ (.int .u8 (z k + 32))) z (fun j => if j = k then z k + 32 else y j)) := hst.put k hlt2 (z k + 32)
                clear hst
                go_wp2
                go_roundw
                case rel => exact ⟨k + 1, _, by omega, by go_num, HST.out, y_step Hy.out HF.out⟩
                case measure => simp [intOf]; omega
            · have hk4 : k = 4 := by omega
              subst hk4
              have hd1 := hst.dst iN (by omega)
              have hf1 := hst.free iN
              have HYi : Hid (y iN = fl (z iN)) := Hy.out iN (by omega)
              have hyb : 48 ≤ y iN ∧ y iN ≤ 102 := by rw [HYi.out]; exact fl_bd (Hhex.out iN (by omega))
              by_cases h9 : (y iN == 57) = true
              · have HE : Hid (fl (z iN) = 57) := by show _ = _; rw [← HYi.out]; exact beq_iff_eq.1 h9
                have HST : Hid (St w (wr.setCell ⟨w.heap.size + 1, iN, none⟩ (.int .u8 (65))) z (fun j => if j = iN then 65 else y j)) := hst.put iN (by omega) (65)
                have HB : Hid (IsHex (65) ∧ hd (65) = hd (z iN) + 1) := bump_nine (Hhex.out iN (by omega)) HE.out
                have HH : Hid (∀ j, j < 4 → IsHex ((fun j => if j = iN then 65 else y j) j)) := fun j hj => by
                  by_cases e : j = iN
                  · simp only [e, if_true]; exact HB.out.1
                  · simp only [e, if_false]; rw [Hy.out j hj]; exact fl_hex (Hhex.out j hj)
                have HV : Hid (V (fun j => if j = iN then 65 else y j) 4 - V z 4 = 2 ^ (4 * (3 - iN))) := V_raise z y (65) iN hi Hhex.out Hy.out HB.out.2
                clear hst HB
                go_wp2_with fail
                refine (zzhex4_any _ _ _ z _ h4 (Nat.le_refl _) hlen HST.out.src Hhex.out).mono ?_
                rintro e w' ⟨rfl, rfl⟩
                go_wp2_with fail
                refine (zzhex4_any _ _ _ _ _ (Nat.le_refl _) (Nat.le_refl _) (by omega) HST.out.dst HH.out).mono ?_
                rintro e w' ⟨rfl, rfl⟩
                go_wp2
                go_ret
                refine ⟨ret_b ?_, HST.out.below⟩
                rw [HV.out]
                exact beq_self_eq_true _
              · have h9' : (y iN == 57) = false := by simpa using h9
                have HE : Hid (fl (z iN) ≠ 57) := by show _ ≠ _; rw [← HYi.out]; exact beq_eq_false_iff_ne.1 h9'
                clear h9
                have HST : Hid (St w (wr.setCell ⟨w.heap.size + 1, iN, none⟩ (.int .u8 (y iN + 1))) z (fun j => if j = iN then y iN + 1 else y j)) := hst.put iN (by omega) (y iN + 1)
                have HB : Hid (IsHex (y iN + 1) ∧ hd (y iN + 1) = hd (z iN) + 1) := (by show _ ∧ _; rw [HYi.out]; exact bump_next (Hhex.out iN (by omega)) HE.out HF1.out HF2.out)
                have HH : Hid (∀ j, j < 4 → IsHex ((fun j => if j = iN then y iN + 1 else y j) j)) := fun j hj => by
                  by_cases e : j = iN
                  · simp only [e, if_true]; exact HB.out.1
                  · simp only [e, if_false]; rw [Hy.out j hj]; exact fl_hex (Hhex.out j hj)
                have HV : Hid (V (fun j => if j = iN then y iN + 1 else y j) 4 - V z 4 = 2 ^ (4 * (3 - iN))) := V_raise z y (y iN + 1) iN hi Hhex.out Hy.out HB.out.2
                clear hst HB
                go_wp2_with fail
                refine (zzhex4_any _ _ _ z _ h4 (Nat.le_refl _) hlen HST.out.src Hhex.out).mono ?_
                rintro e w' ⟨rfl, rfl⟩
                go_wp2_with fail
                refine (zzhex4_any _ _ _ _ _ (Nat.le_refl _) (Nat.le_refl _) (by omega) HST.out.dst HH.out).mono ?_
                rintro e w' ⟨rfl, rfl⟩
                go_wp2
                go_ret
                refine ⟨ret_b ?_, HST.out.below⟩
                rw [HV.out]
                exact beq_self_eq_true _

end Go.Proofs.Qxb6619679a
