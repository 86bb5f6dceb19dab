import Derived.WalkKit
import Derived.Laws.CopyOwn
import Derived.Deep.OwnRows
namespace Go.Proofs.Qxb6612989a
open Go.RowKit Go.Deep
set_option linter.unusedVariables false

/-- 'zzc := make([]T, len(xs)); copy(zzc, xs)': the copy's run, for integers of whatever kind. -/
theorem copy_fresh {P : Program} (w : World) (T E ty : TypeId) (k : IntKind) (L C : Nat) (xa : Addr) (zs : List Int) (hu : P.underlying T = some (.slice E)) (hs : (P.info? E).map (·.size) = some 1)
    (hl : L ≤ C) (hz : zs.length = C) (hcell : ∀ i, i < zs.length → w.cell? (xa.add i) = some (.int k (zs.getD i 0))) :
    ∃ W2, (Builtin.copy_ #[T, T] ty #[.slice (some ⟨w.heap.size, 0, none⟩) L L, .slice (some xa) L C]).run P (w.alloc (.cells (madeCells #[.int k 0] L) E)) = .ok (.int .i64 L) W2 ∧
      Below w.heap.size w W2 ∧ W2.rowIs w.heap.size E L (fun i => .int k (zs.getD i 0)) ∧ W2.heap.size = w.heap.size + 1 := by
  have hlen : ((zs.take L).map (Value.int k)).length = L := by simp; omega
  have hg : (w.alloc (.cells (madeCells #[.int k 0] L) E)).heap[w.heap.size]? = some (.cells (madeCells #[.int k 0] L) E (0, 0)) := blk_alloc_new _ _
  have hrun := run_copy_row (P := P) (w.alloc (.cells (madeCells #[.int k 0] L) E)) T T ty E w.heap.size 0 L L xa L C (madeCells #[.int k 0] L) E ((zs.take L).map (Value.int k)) hu hs hg
    (by rw [hlen]; simp) (by
      intro j v hj
      have hj' : j < L := by
        have := (List.getElem?_eq_some_iff.1 hj).1
        omega
      have hc := hcell j (by omega)
      have hv : v = .int k (zs.getD j 0) := by
        simp [hj'] at hj
        obtain ⟨z, h1, h2⟩ := hj
        simp [← h2, h1]
      rw [hv, World.cell?_alloc_lt _ _ _ (World.block_lt_of_cell? w _ hc)]
      exact hc) (by rw [hlen]; simp [size_madeCells]) (by
      intro v hv
      obtain ⟨z, _, rfl⟩ := List.mem_map.1 hv
      rfl)
  have hrow : ((madeCells #[.int k 0] L).toList.take 0 ++ ((zs.take L).map (Value.int k)) ++ (madeCells #[.int k 0] L).toList.drop (0 + ((zs.take L).map (Value.int k)).length)).toArray = ((zs.take L).map (Value.int k)).toArray := by
    rw [hlen]
    have hd : (madeCells #[Value.int k 0] L).toList.drop (0 + L) = [] := List.drop_eq_nil_of_le (by simp [size_madeCells])
    rw [hd]; simp
  rw [hrow, hlen] at hrun
  refine ⟨_, hrun, below_setRow ((Below.refl _ _).alloc (Nat.le_refl _) _) (Nat.le_refl _) _, ⟨_, setRow_heap _ _ _ _ _ _ hg, by simpa using hlen, fun i hi => ?_⟩, by simp⟩
  have : i < zs.length := by omega
  simp [hi, this]
end Go.Proofs.Qxb6612989a
