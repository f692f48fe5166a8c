/-
  WHAT THE LAST LOOP OF THE LAW KEEPS: the bytes laid so far, the room behind them, old memory as it was.
-/
import Derived.Test.Qxb6609295aWay
namespace Go.Proofs.Qxb6609295a
open Go.RowKit

structure PathSt (w wr : World) (B T : Nat) (p : ByteArray) : Prop where
  bytes : Lib.Bytes wr B 0 p
  room : ∀ j, j < T → (wr.cell? ⟨B, j, none⟩).isSome = true
  open_ : ∀ j, j < T → wr.frozen? ⟨B, j, none⟩ = false
  old : Below B w wr

theorem PathSt.start (w : World) (T : Nat) (t : TypeId) : PathSt w (w.alloc (.cells (madeCells #[.int .u8 0] T) t)) w.heap.size T (pathB []) where
  bytes := fun i h => by rw [pathB_size] at h; simp [pathL] at h
  room := fun j hj => by
    rw [World.cell?_alloc_at _ _ _ _ rfl]
    simp [madeCells, hj]
  open_ := fun j _ => World.frozen?_alloc_at _ _ _ _ rfl
  old := (Below.refl _ _).alloc (Nat.le_refl _) _

theorem PathSt.step {w wr : World} {B T : Nat} {p : ByteArray} (h : PathSt w wr B T p) (s : ByteArray) (hT : p.size + s.size ≤ T) :
    PathSt w (wr.setCells B p.size (byteCells s)) B T (p ++ s) where
  bytes := fun i hi => by
    rw [Nat.zero_add]
    have hl := byteCells_length s
    rw [ByteArray.size_append] at hi
    by_cases hlt : i < p.size
    · rw [World.cell?_setCells_out _ _ _ _ _ (fun _ _ => Or.inl hlt)]
      have := h.bytes i hlt
      rw [Nat.zero_add] at this
      rw [this, ByteArray.getElem_append_left hlt]
    · obtain ⟨j, rfl⟩ : ∃ j, i = p.size + j := ⟨i - p.size, by omega⟩
      have hj : j < (byteCells s).length := by omega
      rw [World.cell?_setCells_in B (byteCells s) p.size wr (fun j hj => h.room _ (by omega)) j hj]
      rw [ByteArray.getElem_append_right (by omega)]
      simp [byteCells]
      rfl
  room := fun j hj => by
    have hl := byteCells_length s
    by_cases hlt : p.size ≤ j ∧ j < p.size + s.size
    · obtain ⟨i, rfl⟩ : ∃ i, j = p.size + i := ⟨j - p.size, by omega⟩
      rw [World.cell?_setCells_in B (byteCells s) p.size wr (fun j hj => h.room _ (by omega)) i (by omega)]
      rfl
    · rw [World.cell?_setCells_out _ _ _ _ _ (fun _ _ => by simp only; omega)]
      exact h.room j hj
  open_ := fun j hj => by rw [World.frozen?_setCells]; exact h.open_ j hj
  old := Go.below_setCells (Nat.le_refl _) _ _ _ h.old

theorem pathB_snoc (ss : List ByteArray) (k : Nat) (h : k < ss.length) : pathB (ss.take (k + 1)) = pathB (ss.take k) ++ (⟨#[46]⟩ ++ nth ss k) := by
  apply ByteArray.ext
  apply Array.toList_inj.1
  rw [ByteArray.data_append, ByteArray.data_append, Array.toList_append, Array.toList_append]
  show pathL _ = pathL _ ++ ([46] ++ _)
  rw [pathL_snoc ss k h]
  rfl
theorem pathB_len (ss : List ByteArray) (k : Nat) : (pathB (ss.take k)).size = offs ss k := by rw [pathB_size]; rfl

theorem info5 : (Try.prog.info? 5).map (fun i => (i.zero, i.size, i.bytes)) = some (some (.int .u8 0), 1, 1) := by kernel_rfl
end Go.Proofs.Qxb6609295a
