/-
  'make' and 'copy' of the law: a copied row, as one new block.
-/
import Derived.Test.Qxb6609345aChild
import Derived.Laws.CopyRow
import Derived.Deep.OwnRows
import Derived.Deep.WholeRow
namespace Go.Proofs.Qxb6609345a
open Go.RowKit

/-- The row's cells. -/
def vals (z : Nat → Int) (len : Nat) : Array Value := ((List.range len).map fun j => Value.int .u64 (z j)).toArray
theorem vals_get (z : Nat → Int) (len j : Nat) (h : j < len) : (vals z len)[j]? = some (.int .u64 (z j)) := by simp [vals, h]
theorem vals_size (z : Nat → Int) (len : Nat) : (vals z len).size = len := by simp [vals]

theorem info53 : (Try.prog.info? 53).map (fun i => (i.zero, i.size, i.bytes)) = some (some (.int .u64 0), 1, 8) := by kernel_rfl
theorem size53 : (Try.prog.info? 53).map (·.size) = some 1 := by kernel_rfl

theorem copy_made (W : World) (b off len cap : Nat) (z : Nat → Int) (ty : TypeId) (hb : b < W.heap.size) (hsrc : ∀ j, j < len → W.cell? ⟨b, off + j, none⟩ = some (.int .u64 (z j))) :
    (Builtin.copy_ #[50, 50] ty #[.slice (some ⟨W.heap.size, 0, none⟩) len len, .slice (some ⟨b, off, none⟩) len cap]).run Try.prog (W.alloc (.cells (madeCells #[.int .u64 0] len) 53)) = .ok (goInt len) (W.alloc (.cells (vals z len) 53)) := by
  have h := run_copy_row (P := Try.prog) (W.alloc (.cells (madeCells #[.int .u64 0] len) 53)) 50 50 ty 53 W.heap.size 0 len len ⟨b, off, none⟩ len cap (madeCells #[.int .u64 0] len) 53 (vals z len).toList Try.underlying50 size53
    (heap_alloc_new W _) (by simp [vals]) ?_ (by simp [vals, size_madeCells]) ?_
  · rw [h]
    have e1 : ((vals z len).toList).length = len := by simp [vals]
    have e2 : ((madeCells #[Value.int .u64 0] len).toList.take 0 ++ (vals z len).toList ++ (madeCells #[Value.int .u64 0] len).toList.drop (0 + len)).toArray = vals z len := by
      rw [List.take_zero, List.nil_append, List.drop_of_length_le (by rw [Array.length_toList, size_madeCells]; omega), List.append_nil, Array.toArray_toList]
    rw [e1, e2, World.setRow_alloc_new]
  · intro j v hj
    have hlt : j < len := by
      have := (List.getElem?_eq_some_iff.1 hj).1
      simpa [vals] using this
    rw [show (⟨b, off, none⟩ : Addr).add j = ⟨b, off + j, none⟩ from by simp [Addr.add], World.cell?_alloc_past _ _ _ hb, hsrc j hlt]
    rw [Array.getElem?_toList, vals_get z len j hlt] at hj
    exact hj
  · intro v hv
    simp [vals] at hv
    obtain ⟨j, _, rfl⟩ := hv
    rfl
end Go.Proofs.Qxb6609345a
