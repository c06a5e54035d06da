/-
  WHAT 'zzc := make([]byte, len(s)); copy(zzc, s)' LEAVES, as run equations for the walk: a new row that holds what s held; of what was there nothing has turned.
-/
import Derived.Test.Qxb6619679aHex
import Derived.Deep.OwnRows
import Derived.Laws.CopyOwn
namespace Go.Proofs.Qxb6619679a
open Go.ChangeShapes Go.WideShapes Go.ChangeAt Go.RowKit

theorem info5 : (Try.prog.info? 5).map (fun i => (i.zero, i.size, i.bytes)) = some (some (.int .u8 0), 1, 1) := by kernel_rfl
theorem size5 : (Try.prog.info? 5).map (·.size) = some 1 := by kernel_rfl

/-- 'zzc := make([]byte, len(s)); copy(zzc, s)': what the copy leaves. -/
theorem copied (x : Addr) (len cap : Nat) (zs : List Int) (w : World) (hl : len ≤ zs.length) (hcell : ∀ i, i < zs.length → w.cell? (x.add i) = some (.int .u8 (zs.getD i 0))) :
    ∃ W2, (Builtin.copy_ #[22, 22] 3 #[.slice (some ⟨w.heap.size, 0, none⟩) len len, .slice (some x) len cap]).run Try.prog (w.alloc (.cells (madeCells #[.int .u8 0] len) 5)) = .ok (.int .i64 len) W2 ∧
      (∀ i, i < len → W2.cell? ⟨w.heap.size, i, none⟩ = some (.int .u8 (zs.getD i 0))) ∧ Below w.heap.size w W2 ∧ W2.heap.size = w.heap.size + 1 := by
  have hcs : ((zs.take len).map fun n => Value.int .u8 n).length = len := by simp; omega
  have hblk : (w.alloc (.cells (madeCells #[.int .u8 0] len) 5)).heap[w.heap.size]? = some (.cells (madeCells #[.int .u8 0] len) 5 (0, 0)) := (MapKept.heap_alloc w _).1
  have hget : ∀ i, i < len → ((zs.take len).map fun n => Value.int .u8 n)[i]? = some (.int .u8 (zs.getD i 0)) := by
    intro i hi
    have : i < zs.length := by omega
    simp [hi, this]
  have hrun := run_copy_row (P := Try.prog) (w.alloc (.cells (madeCells #[.int .u8 0] len) 5)) 22 22 3 5 w.heap.size 0 len len x len cap (madeCells #[.int .u8 0] len) 5 ((zs.take len).map fun n => Value.int .u8 n)
    Try.underlying22 size5 hblk (by rw [hcs]; simp)
    (by
      intro j v hv
      have hj : j < len := by
        have := (List.getElem?_eq_some_iff.1 hv).1
        omega
      rw [hget j hj] at hv
      cases hv
      have h1 := hcell j (by omega)
      have hb : (x.add j).block < w.heap.size := by
        rcases Nat.lt_or_ge (x.add j).block w.heap.size with h | h
        · exact h
        · have e : w.heap[(x.add j).block]? = none := by simp; omega
          simp [World.cell?, e] at h1
      exact (World.cell?_alloc_lt _ _ _ hb).trans h1)
    (by rw [hcs, size_madeCells]; omega) (by intro v hv; obtain ⟨_, _, rfl⟩ := List.mem_map.1 hv; rfl)
  rw [hcs] at hrun
  refine ⟨_, hrun, ?_, below_setRow ((Below.refl _ _).alloc (Nat.le_refl _) _) (Nat.le_refl _) _, by simp⟩
  intro i hi
  rw [cell_setRow_same _ _ _ _ _ _ _ hblk]
  have e : (madeCells #[.int .u8 0] len).toList.drop (0 + len) = [] := List.drop_eq_nil_of_le (by simp [size_madeCells])
  simp only [List.take_zero, List.nil_append, e, List.append_nil]
  simpa using hget i hi

/-- The same, for a reader of the first four cells. -/
theorem copied4 (x : Addr) (len cap : Nat) (zs : List Int) (w : World) (h4 : 4 ≤ len) (hl : len ≤ zs.length) (hcell : ∀ i, i < zs.length → w.cell? (x.add i) = some (.int .u8 (zs.getD i 0))) :
    ∃ W2, ∃ z : Nat → Int, (Builtin.copy_ #[22, 22] 3 #[.slice (some ⟨w.heap.size, 0, none⟩) len len, .slice (some x) len cap]).run Try.prog (w.alloc (.cells (madeCells #[.int .u8 0] len) 5)) = .ok (.int .i64 len) W2 ∧
      (∀ i, i < 4 → W2.cell? ⟨w.heap.size, i, none⟩ = some (.int .u8 (z i))) ∧ Below w.heap.size w W2 ∧ W2.heap.size = w.heap.size + 1 := by
  obtain ⟨W2, h1, h2, h3⟩ := copied x len cap zs w hl hcell
  exact ⟨W2, fun i => zs.getD i 0, h1, fun i hi => h2 i (by omega), h3⟩

theorem make_row (len : Nat) (h : len ≤ 1048576) (w : World) : (Instr.makeSlice 22 (.int .i64 (len : Int)) (.int .i64 (len : Int))).run Try.prog w =
    .ok (.slice (some ⟨w.heap.size, 0, none⟩) len len) (w.alloc (.cells (madeCells #[.int .u8 0] len) 5)) :=
  run_make_row' (P := Try.prog) 22 5 (.int .u8 0) 1 Try.underlying22 info5 rfl .i64 .i64 len (by omega) (by omega) w

theorem make_four (w : World) : (Instr.makeSlice 22 (.int .i64 4) (.int .i64 4)).run Try.prog w =
    .ok (.slice (some ⟨w.heap.size, 0, none⟩) 4 4) (w.alloc (.cells (madeCells #[.int .u8 0] 4) 5)) := make_row 4 (by omega) w

end Go.Proofs.Qxb6619679a
